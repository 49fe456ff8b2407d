import PyProof.Rows.All
import Wide.All
import OpenK.AllK
import Wide.FinOn
import Lean
import PySem.Challenge.RW_ji0035_01
set_option Elab.async false
set_option maxRecDepth 100000
set_option linter.unusedVariables false
set_option linter.unusedSimpArgs false
set_option linter.all false
noncomputable section
local macro_rules | `(tactic| walk_at "O") => do
 let t ← `(tactic| omega)
 let u:Lean.TSyntax `tactic ← ("Mine.AOK.u0 Mine.AOK.d0 Mine.AOK.d1 Mine.AOK.d100 Mine.AOK.u16 Mine.bZA Nat.le_succ Nat.succ_ne_self Mine.bJJ Mine.bZz Mine.bJI Nat.le_add_right Mine.bKI Mine.bKJ Mine.z_64 Nat.lt_of_lt_of_le Nat.le_of_lt_succ Nat.le_trans Nat.lt_of_le_of_lt Mine.bZB".splitOn " ").foldrM (fun (s:String) (a:Lean.TSyntax `tactic)=>`(tactic| first | (apply $(Lean.mkIdent s.toName)<;>first | assumption | decide) | $a:tactic)) t
 pure u
section
namespace Mine
theorem bke {p1:Prop}{p2:Prop}{p3:Prop}{P:Prop} (h:p1∧p2∧p3) (k:p1→p2→p3→P):P:=k h.1 h.2.1 h.2.2
theorem aQd {p1:Prop}{p2:Prop}{p3:Prop}{p4:Prop}{P:Prop} (h:p1∧p2∧p3∧p4) (k:p1→p2→p3→p4→P):P:=k h.1 h.2.1 h.2.2.1 h.2.2.2
theorem bQg {p1:Prop}{p2:Prop}{p3:Prop}{p4:Prop}{p5:Prop}{P:Prop} (h:p1∧p2∧p3∧p4∧p5) (k:p1→p2→p3→p4→p5→P):P:=k h.1 h.2.1 h.2.2.1 h.2.2.2.1 h.2.2.2.2
theorem akh {p1:Prop}{p2:Prop}{p3:Prop}{p4:Prop}{p5:Prop}{p6:Prop}{P:Prop} (h:p1∧p2∧p3∧p4∧p5∧p6) (k:p1→p2→p3→p4→p5→p6→P):P:=k h.1 h.2.1 h.2.2.1 h.2.2.2.1 h.2.2.2.2.1 h.2.2.2.2.2
theorem bKS {p1:Prop}{α2:Sort _}{p3 : α2→Prop}{P:Prop} (h:p1∧∃ x2,p3 x2) (k:p1→∀ x2,p3 x2→P):P:=Exists.elim h.2 fun x1 h1=>k h.1 x1 h1
theorem ak1 {p1:Prop}{α2:Sort _}{p3 : α2→Prop}{p4 : α2→Prop}{P:Prop} (h:p1∧∃ x2,p3 x2∧p4 x2) (k:p1→∀ x2,p3 x2→p4 x2→P):P:=Exists.elim h.2 fun x1 h1=>k h.1 x1 h1.1 h1.2
theorem ajl {α1:Sort _}{p2 : α1→Prop}{p3 : α1→Prop}{P:Prop} (h:∃ x1,p2 x1∧p3 x1) (k:∀ x1,p2 x1→p3 x1→P):P:=Exists.elim h fun x0 h0=>k x0 h0.1 h0.2
theorem aKb {α1:Sort _}{p2 : α1→Prop}{p3 : α1→Prop}{p4 : α1→Prop}{P:Prop} (h:∃ x1,p2 x1∧p3 x1∧p4 x1) (k:∀ x1,p2 x1→p3 x1→p4 x1→P):P:=Exists.elim h fun x0 h0=>k x0 h0.1 h0.2.1 h0.2.2
theorem aJF {α1:Sort _}{p2 : α1→Prop}{p3 : α1→Prop}{p4 : α1→Prop}{p5 : α1→Prop}{p6 : α1→Prop}{P:Prop} (h:∃ x1,p2 x1∧p3 x1∧p4 x1∧p5 x1∧p6 x1) (k:∀ x1,p2 x1→p3 x1→p4 x1→p5 x1→p6 x1→P):P:=Exists.elim h fun x0 h0=>k x0 h0.1 h0.2.1 h0.2.2.1 h0.2.2.2.1 h0.2.2.2.2
theorem azD {α1:Sort _}{α2:Sort _}{p3 : α1→α2→Prop}{P:Prop} (h:∃ x1,∃ x2,p3 x1 x2) (k:∀ x1,∀ x2,p3 x1 x2→P):P:=Exists.elim h fun x0 h0=>Exists.elim h0 fun x1 h1=>k x0 x1 h1
theorem ajU {α1:Sort _}{α2:Sort _}{p3 : α1→α2→Prop}{p4 : α1→α2→Prop}{P:Prop} (h:∃ x1,∃ x2,p3 x1 x2∧p4 x1 x2) (k:∀ x1,∀ x2,p3 x1 x2→p4 x1 x2→P):P:=Exists.elim h fun x0 h0=>Exists.elim h0 fun x1 h1=>k x0 x1 h1.1 h1.2
theorem ax0 {α1:Sort _}{α2:Sort _}{p3 : α1→α2→Prop}{p4 : α1→α2→Prop}{p5 : α1→α2→Prop}{P:Prop} (h:∃ x1,∃ x2,p3 x1 x2∧p4 x1 x2∧p5 x1 x2) (k:∀ x1,∀ x2,p3 x1 x2→p4 x1 x2→p5 x1 x2→P):P:=Exists.elim h fun x0 h0=>Exists.elim h0 fun x1 h1=>k x0 x1 h1.1 h1.2.1 h1.2.2
theorem aZo {α1:Sort _}{α2:Sort _}{p3 : α1→α2→Prop}{p4 : α1→α2→Prop}{p5 : α1→α2→Prop}{p6 : α1→α2→Prop}{P:Prop} (h:∃ x1,∃ x2,p3 x1 x2∧p4 x1 x2∧p5 x1 x2∧p6 x1 x2) (k:∀ x1,∀ x2,p3 x1 x2→p4 x1 x2→p5 x1 x2→p6 x1 x2→P):P:=Exists.elim h fun x0 h0=>Exists.elim h0 fun x1 h1=>k x0 x1 h1.1 h1.2.1 h1.2.2.1 h1.2.2.2
theorem bqc {α1:Sort _}{α2:Sort _}{α3:Sort _}{p4 : α1→α2→α3→Prop}{P:Prop} (h:∃ x1,∃ x2,∃ x3,p4 x1 x2 x3) (k:∀ x1,∀ x2,∀ x3,p4 x1 x2 x3→P):P:=Exists.elim h fun x0 h0=>Exists.elim h0 fun x1 h1=>Exists.elim h1 fun x2 h2=>k x0 x1 x2 h2
theorem av2 {α1:Sort _}{α2:Sort _}{α3:Sort _}{p4 : α1→α2→α3→Prop}{p5 : α1→α2→α3→Prop}{P:Prop} (h:∃ x1,∃ x2,∃ x3,p4 x1 x2 x3∧p5 x1 x2 x3) (k:∀ x1,∀ x2,∀ x3,p4 x1 x2 x3→p5 x1 x2 x3→P):P:=Exists.elim h fun x0 h0=>Exists.elim h0 fun x1 h1=>Exists.elim h1 fun x2 h2=>k x0 x1 x2 h2.1 h2.2
theorem azS {α1:Sort _}{α2:Sort _}{α3:Sort _}{p4 : α1→α2→α3→Prop}{p5 : α1→α2→α3→Prop}{p6 : α1→α2→α3→Prop}{P:Prop} (h:∃ x1,∃ x2,∃ x3,p4 x1 x2 x3∧p5 x1 x2 x3∧p6 x1 x2 x3) (k:∀ x1,∀ x2,∀ x3,p4 x1 x2 x3→p5 x1 x2 x3→p6 x1 x2 x3→P):P:=Exists.elim h fun x0 h0=>Exists.elim h0 fun x1 h1=>Exists.elim h1 fun x2 h2=>k x0 x1 x2 h2.1 h2.2.1 h2.2.2
theorem bvt {α1:Sort _}{α2:Sort _}{α3:Sort _}{p4 : α1→α2→α3→Prop}{α5:Sort _}{p6 : α1→α2→α3→α5→Prop}{P:Prop} (h:∃ x1,∃ x2,∃ x3,p4 x1 x2 x3∧∃ x5,p6 x1 x2 x3 x5) (k:∀ x1,∀ x2,∀ x3,p4 x1 x2 x3→∀ x5,p6 x1 x2 x3 x5→P):P:=Exists.elim h fun x0 h0=>Exists.elim h0 fun x1 h1=>Exists.elim h1 fun x2 h2=>Exists.elim h2.2 fun x4 h4=>k x0 x1 x2 h2.1 x4 h4
theorem bxw {α1:Sort _}{α2:Sort _}{α3:Sort _}{α4:Sort _}{p5 : α1→α2→α3→α4→Prop}{P:Prop} (h:∃ x1,∃ x2,∃ x3,∃ x4,p5 x1 x2 x3 x4) (k:∀ x1,∀ x2,∀ x3,∀ x4,p5 x1 x2 x3 x4→P):P:=Exists.elim h fun x0 h0=>Exists.elim h0 fun x1 h1=>Exists.elim h1 fun x2 h2=>Exists.elim h2 fun x3 h3=>k x0 x1 x2 x3 h3
theorem akZ {α1:Sort _}{α2:Sort _}{α3:Sort _}{α4:Sort _}{α5:Sort _}{p6 : α1→α2→α3→α4→α5→Prop}{P:Prop} (h:∃ x1,∃ x2,∃ x3,∃ x4,∃ x5,p6 x1 x2 x3 x4 x5) (k:∀ x1,∀ x2,∀ x3,∀ x4,∀ x5,p6 x1 x2 x3 x4 x5→P):P:=Exists.elim h fun x0 h0=>Exists.elim h0 fun x1 h1=>Exists.elim h1 fun x2 h2=>Exists.elim h2 fun x3 h3=>Exists.elim h3 fun x4 h4=>k x0 x1 x2 x3 x4 h4
theorem aV6 {α1:Sort _}{α2:Sort _}{α3:Sort _}{α4:Sort _}{α5:Sort _}{α6:Sort _}{p7 : α1→α2→α3→α4→α5→α6→Prop}{P:Prop} (h:∃ x1,∃ x2,∃ x3,∃ x4,∃ x5,∃ x6,p7 x1 x2 x3 x4 x5 x6) (k:∀ x1,∀ x2,∀ x3,∀ x4,∀ x5,∀ x6,p7 x1 x2 x3 x4 x5 x6→P):P:=Exists.elim h fun x0 h0=>Exists.elim h0 fun x1 h1=>Exists.elim h1 fun x2 h2=>Exists.elim h2 fun x3 h3=>Exists.elim h3 fun x4 h4=>Exists.elim h4 fun x5 h5=>k x0 x1 x2 x3 x4 x5 h5
theorem bzF {p1:Prop}{p2:Prop}{p3:Prop}{P:Prop} (k:p1→p2→p3→P) (h:p1∧p2∧p3):P:=k h.1 h.2.1 h.2.2
theorem aZd {p1:Prop}{p2:Prop}{p3:Prop}{p4:Prop}{P:Prop} (k:p1→p2→p3→p4→P) (h:p1∧p2∧p3∧p4):P:=k h.1 h.2.1 h.2.2.1 h.2.2.2
theorem bQ7 {p1:Prop}{p2:Prop}{p3:Prop}{p4:Prop}{p5:Prop}{P:Prop} (k:p1→p2→p3→p4→p5→P) (h:p1∧p2∧p3∧p4∧p5):P:=k h.1 h.2.1 h.2.2.1 h.2.2.2.1 h.2.2.2.2
theorem akT {p1:Prop}{p2:Prop}{p3:Prop}{p4:Prop}{p5:Prop}{p6:Prop}{P:Prop} (k:p1→p2→p3→p4→p5→p6→P) (h:p1∧p2∧p3∧p4∧p5∧p6):P:=k h.1 h.2.1 h.2.2.1 h.2.2.2.1 h.2.2.2.2.1 h.2.2.2.2.2
theorem bZi {p1:Prop}{p2:Prop}{p3:Prop}{p4:Prop}{p5:Prop}{p6:Prop}{p7:Prop}{P:Prop} (k:p1→p2→p3→p4→p5→p6→p7→P) (h:p1∧p2∧p3∧p4∧p5∧p6∧p7):P:=k h.1 h.2.1 h.2.2.1 h.2.2.2.1 h.2.2.2.2.1 h.2.2.2.2.2.1 h.2.2.2.2.2.2
theorem aZc {p1:Prop}{α2:Sort _}{p3 : α2→Prop}{p4 : α2→Prop}{P:Prop} (k:p1→∀ x2,p3 x2→p4 x2→P) (h:p1∧∃ x2,p3 x2∧p4 x2):P:=Exists.elim h.2 fun x1 h1=>k h.1 x1 h1.1 h1.2
theorem azC {α1:Sort _}{p2 : α1→Prop}{p3 : α1→Prop}{P:Prop} (k:∀ x1,p2 x1→p3 x1→P) (h:∃ x1,p2 x1∧p3 x1):P:=Exists.elim h fun x0 h0=>k x0 h0.1 h0.2
theorem aZb {α1:Sort _}{p2 : α1→Prop}{p3 : α1→Prop}{p4 : α1→Prop}{P:Prop} (k:∀ x1,p2 x1→p3 x1→p4 x1→P) (h:∃ x1,p2 x1∧p3 x1∧p4 x1):P:=Exists.elim h fun x0 h0=>k x0 h0.1 h0.2.1 h0.2.2
theorem bxq {α1:Sort _}{p2 : α1→Prop}{p3 : α1→Prop}{p4 : α1→Prop}{p5 : α1→Prop}{P:Prop} (k:∀ x1,p2 x1→p3 x1→p4 x1→p5 x1→P) (h:∃ x1,p2 x1∧p3 x1∧p4 x1∧p5 x1):P:=Exists.elim h fun x0 h0=>k x0 h0.1 h0.2.1 h0.2.2.1 h0.2.2.2
theorem aJE {α1:Sort _}{p2 : α1→Prop}{p3 : α1→Prop}{α4:Sort _}{p5 : α1→α4→Prop}{P:Prop} (k:∀ x1,p2 x1→p3 x1→∀ x4,p5 x1 x4→P) (h:∃ x1,p2 x1∧p3 x1∧∃ x4,p5 x1 x4):P:=Exists.elim h fun x0 h0=>Exists.elim h0.2.2 fun x3 h3=>k x0 h0.1 h0.2.1 x3 h3
theorem bQ6 {α1:Sort _}{p2 : α1→Prop}{α3:Sort _}{p4 : α1→α3→Prop}{p5 : α1→α3→Prop}{P:Prop} (k:∀ x1,p2 x1→∀ x3,p4 x1 x3→p5 x1 x3→P) (h:∃ x1,p2 x1∧∃ x3,p4 x1 x3∧p5 x1 x3):P:=Exists.elim h fun x0 h0=>Exists.elim h0.2 fun x2 h2=>k x0 h0.1 x2 h2.1 h2.2
theorem bvk {α1:Sort _}{p2 : α1→Prop}{α3:Sort _}{α4:Sort _}{α5:Sort _}{p6 : α1→α3→α4→α5→Prop}{P:Prop} (k:∀ x1,p2 x1→∀ x3,∀ x4,∀ x5,p6 x1 x3 x4 x5→P) (h:∃ x1,p2 x1∧∃ x3,∃ x4,∃ x5,p6 x1 x3 x4 x5):P:=Exists.elim h fun x0 h0=>Exists.elim h0.2 fun x2 h2=>Exists.elim h2 fun x3 h3=>Exists.elim h3 fun x4 h4=>k x0 h0.1 x2 x3 x4 h4
theorem r_EE {α1:Sort _}{α2:Sort _}{p3 : α1→α2→Prop}{P:Prop} (k:∀ x1,∀ x2,p3 x1 x2→P) (h:∃ x1,∃ x2,p3 x1 x2):P:=Exists.elim h fun x0 h0=>Exists.elim h0 fun x1 h1=>k x0 x1 h1
theorem aq2 {α1:Sort _}{α2:Sort _}{p3 : α1→α2→Prop}{p4 : α1→α2→Prop}{P:Prop} (k:∀ x1,∀ x2,p3 x1 x2→p4 x1 x2→P) (h:∃ x1,∃ x2,p3 x1 x2∧p4 x1 x2):P:=Exists.elim h fun x0 h0=>Exists.elim h0 fun x1 h1=>k x0 x1 h1.1 h1.2
theorem aQB {α1:Sort _}{α2:Sort _}{p3 : α1→α2→Prop}{p4 : α1→α2→Prop}{p5 : α1→α2→Prop}{P:Prop} (k:∀ x1,∀ x2,p3 x1 x2→p4 x1 x2→p5 x1 x2→P) (h:∃ x1,∃ x2,p3 x1 x2∧p4 x1 x2∧p5 x1 x2):P:=Exists.elim h fun x0 h0=>Exists.elim h0 fun x1 h1=>k x0 x1 h1.1 h1.2.1 h1.2.2
theorem aJD {α1:Sort _}{α2:Sort _}{p3 : α1→α2→Prop}{p4 : α1→α2→Prop}{p5 : α1→α2→Prop}{p6 : α1→α2→Prop}{P:Prop} (k:∀ x1,∀ x2,p3 x1 x2→p4 x1 x2→p5 x1 x2→p6 x1 x2→P) (h:∃ x1,∃ x2,p3 x1 x2∧p4 x1 x2∧p5 x1 x2∧p6 x1 x2):P:=Exists.elim h fun x0 h0=>Exists.elim h0 fun x1 h1=>k x0 x1 h1.1 h1.2.1 h1.2.2.1 h1.2.2.2
theorem bQ5 {α1:Sort _}{α2:Sort _}{α3:Sort _}{p4 : α1→α2→α3→Prop}{P:Prop} (k:∀ x1,∀ x2,∀ x3,p4 x1 x2 x3→P) (h:∃ x1,∃ x2,∃ x3,p4 x1 x2 x3):P:=Exists.elim h fun x0 h0=>Exists.elim h0 fun x1 h1=>Exists.elim h1 fun x2 h2=>k x0 x1 x2 h2
theorem aQA {α1:Sort _}{α2:Sort _}{α3:Sort _}{p4 : α1→α2→α3→Prop}{p5 : α1→α2→α3→Prop}{P:Prop} (k:∀ x1,∀ x2,∀ x3,p4 x1 x2 x3→p5 x1 x2 x3→P) (h:∃ x1,∃ x2,∃ x3,p4 x1 x2 x3∧p5 x1 x2 x3):P:=Exists.elim h fun x0 h0=>Exists.elim h0 fun x1 h1=>Exists.elim h1 fun x2 h2=>k x0 x1 x2 h2.1 h2.2
theorem akS {α1:Sort _}{α2:Sort _}{α3:Sort _}{p4 : α1→α2→α3→Prop}{p5 : α1→α2→α3→Prop}{p6 : α1→α2→α3→Prop}{P:Prop} (k:∀ x1,∀ x2,∀ x3,p4 x1 x2 x3→p5 x1 x2 x3→p6 x1 x2 x3→P) (h:∃ x1,∃ x2,∃ x3,p4 x1 x2 x3∧p5 x1 x2 x3∧p6 x1 x2 x3):P:=Exists.elim h fun x0 h0=>Exists.elim h0 fun x1 h1=>Exists.elim h1 fun x2 h2=>k x0 x1 x2 h2.1 h2.2.1 h2.2.2
theorem aZa {α1:Sort _}{α2:Sort _}{α3:Sort _}{p4 : α1→α2→α3→Prop}{p5 : α1→α2→α3→Prop}{p6 : α1→α2→α3→Prop}{p7 : α1→α2→α3→Prop}{P:Prop} (k:∀ x1,∀ x2,∀ x3,p4 x1 x2 x3→p5 x1 x2 x3→p6 x1 x2 x3→p7 x1 x2 x3→P) (h:∃ x1,∃ x2,∃ x3,p4 x1 x2 x3∧p5 x1 x2 x3∧p6 x1 x2 x3∧p7 x1 x2 x3):P:=Exists.elim h fun x0 h0=>Exists.elim h0 fun x1 h1=>Exists.elim h1 fun x2 h2=>k x0 x1 x2 h2.1 h2.2.1 h2.2.2.1 h2.2.2.2
theorem bQ4 {α1:Sort _}{α2:Sort _}{α3:Sort _}{α4:Sort _}{p5 : α1→α2→α3→α4→Prop}{P:Prop} (k:∀ x1,∀ x2,∀ x3,∀ x4,p5 x1 x2 x3 x4→P) (h:∃ x1,∃ x2,∃ x3,∃ x4,p5 x1 x2 x3 x4):P:=Exists.elim h fun x0 h0=>Exists.elim h0 fun x1 h1=>Exists.elim h1 fun x2 h2=>Exists.elim h2 fun x3 h3=>k x0 x1 x2 x3 h3
theorem aJC {α1:Sort _}{α2:Sort _}{α3:Sort _}{α4:Sort _}{p5 : α1→α2→α3→α4→Prop}{p6 : α1→α2→α3→α4→Prop}{P:Prop} (k:∀ x1,∀ x2,∀ x3,∀ x4,p5 x1 x2 x3 x4→p6 x1 x2 x3 x4→P) (h:∃ x1,∃ x2,∃ x3,∃ x4,p5 x1 x2 x3 x4∧p6 x1 x2 x3 x4):P:=Exists.elim h fun x0 h0=>Exists.elim h0 fun x1 h1=>Exists.elim h1 fun x2 h2=>Exists.elim h2 fun x3 h3=>k x0 x1 x2 x3 h3.1 h3.2
theorem az3 {α1:Sort _}{α2:Sort _}{α3:Sort _}{α4:Sort _}{α5:Sort _}{p6 : α1→α2→α3→α4→α5→Prop}{P:Prop} (k:∀ x1,∀ x2,∀ x3,∀ x4,∀ x5,p6 x1 x2 x3 x4 x5→P) (h:∃ x1,∃ x2,∃ x3,∃ x4,∃ x5,p6 x1 x2 x3 x4 x5):P:=Exists.elim h fun x0 h0=>Exists.elim h0 fun x1 h1=>Exists.elim h1 fun x2 h2=>Exists.elim h2 fun x3 h3=>Exists.elim h3 fun x4 h4=>k x0 x1 x2 x3 x4 h4
theorem bk5 {α1:Sort _}{α2:Sort _}{α3:Sort _}{α4:Sort _}{α5:Sort _}{p6 : α1→α2→α3→α4→α5→Prop}{p7 : α1→α2→α3→α4→α5→Prop}{P:Prop} (k:∀ x1,∀ x2,∀ x3,∀ x4,∀ x5,p6 x1 x2 x3 x4 x5→p7 x1 x2 x3 x4 x5→P) (h:∃ x1,∃ x2,∃ x3,∃ x4,∃ x5,p6 x1 x2 x3 x4 x5∧p7 x1 x2 x3 x4 x5):P:=Exists.elim h fun x0 h0=>Exists.elim h0 fun x1 h1=>Exists.elim h1 fun x2 h2=>Exists.elim h2 fun x3 h3=>Exists.elim h3 fun x4 h4=>k x0 x1 x2 x3 x4 h4.1 h4.2
theorem bZA {i n:Nat} (h:i < n):n - (i + 1) < n - i:=Nat.sub_lt_sub_left h (Nat.lt_succ_self i)
theorem bJJ {n:Nat}:n≠n + 1:=(Nat.succ_ne_self n).symm
theorem bZz {n:Nat}:n≠n + 2:=Nat.ne_of_lt (Nat.lt_add_of_pos_right (by decide))
theorem bJI {n:Nat}:n + 1≠n + 2:=bJJ
theorem bZB {a b x y k:Nat} (h1:a≤x) (h2:b≤y) (h3:x + y≤k):a + b≤k:=Nat.le_trans (Nat.add_le_add h1 h2) h3
theorem bKI {i:Int} (h:0≤i) : -2 ^ 63≤i:=Int.le_trans (by decide) h
theorem bKJ {i:Int} (h:i≤1000):i < 2 ^ 63:=Int.lt_of_le_of_lt h (by decide)
theorem z_64 {i:Int} (h0:0≤i) (h:i≤1000) : -2 ^ 63≤i∧i < 2 ^ 63:=⟨bKI h0,bKJ h⟩
open PySem PySem.W PyProof.Rows PySem.Calls
inductive MV where
 | unb
 | none
 | bool (b:Bool)
 | int (i:Int)
 | bytes (b:List UInt8)
 | str (s:Str)
 | typ (n:String)
 | bi (n:String)
 | top (a:Nat)
 | list (xs:List MV)
 | tup (xs:List MV)
 | dict (es:List (List UInt8×MV))
 | set (xs:List (List UInt8))
 | refs (i:Nat)
 | obj (i:Nat)
set_option genSizeOf false
inductive MO where
 | dead
 | tab
 | list (xs:List MV)
 | dict (es:List (List UInt8×MV))
 | set (xs:List (List UInt8))
set_option genInjectivity false
structure MSt where
 loc:List MV
 objs:List MO
noncomputable abbrev M (α : Type):=MSt→(α→MSt→Prop)→(Value→MSt→Prop)→Prop
structure Wd where
 s:Shared
 rho:List Addr
 D:Addr→Prop
noncomputable abbrev bZ8 (P:Params) (k:List UInt8):Int:=hashW P (.bytes k)
noncomputable def aqW (P:Params):List (List UInt8)→List (Int×Value)→Prop
 | [],es=>es=[]
 | k::ks,es=>∃ e r,es=e::r∧(e.1=bZ8 P k∧∃ t,e.2=Value.bytes k.toArray t)∧aqW P ks r
structure axj (P:Params) (xs:List (List UInt8)) (o:Obj):Prop where
 ex:o.ExactSet
 data:∃ es ep t,o.data = .set es ep t∧(∃ ks,ks.Perm xs∧aqW P ks es.toList)∧xs.Nodup∧es.size < scanBound∧t.fits es.size=true∧(t.led=true∨P.followText "set-order" = true)∧(t.plain=true→es = #[])
inductive InL (W:Wd) (I:Heap→Addr→Array Value→Prop) (p:List Value→Prop):Value→Prop
 | mk (a:Addr) (vs:List Value) (hd:¬ W.D a) (hl:I W.s.heap a vs.toArray) (hv:p vs):InL W I p (.ref a)
inductive InD (W:Wd) (p:List DictEntry→Prop):Value→Prop
 | mk (a:Addr) (o:Obj) (ds:List DictEntry) (ep:Nat) (hd:¬ W.D a) (hs:(a == sysModules)=false) (ho:W.s.heap.get? a=some o) (hex:o.ExactDict) (hdt:o.data = .dict (List.toArray ds) ep) (hv:p ds):InD W p (.ref a)
inductive InS (W:Wd) (p:Obj→Prop):Value→Prop
 | mk (a:Addr) (o:Obj) (hd:¬ W.D a) (ho:W.s.heap.get? a=some o) (hv:p o):InS W p (.ref a)
inductive InR (C:Addr) (W:Wd) (i:Nat):Value→Prop
 | mk (a d:Addr) (t1 t2:Tok) (h1 h2:Int) (r:Addr) (pe:Value) (ep:Nat) (hd:¬ W.D a) (ho:W.s.heap.get? a=some (instObj C d)) (hd2:¬ W.D d)
   (ho2:W.s.heap.get? d=some (dictOf [⟨h1,.str (Str.ofString "_refs") t1,.ref r⟩,⟨h2,.str (Str.ofString "_peeled") t2,pe⟩] ep)) (hr:W.rho[i]? = some r):InR C W i (.ref a)
inductive InO (W:Wd) (i:Nat):Value→Prop
 | mk (a:Addr) (hr:W.rho[i]? = some a):InO W i (.ref a)
mutual
noncomputable def VR (P:Params) (C:Addr) (W:Wd):MV→Value→Prop
 | .unb=>fun _=>False
 | .none=>fun v=>v = .none
 | .bool b=>fun v=>v = .bool b
 | .int i=>fun v=>∃ t,v = .int i t
 | .bytes b=>fun v=>∃ t,v = .bytes b.toArray t
 | .str s=>fun v=>∃ t,v = .str s t
 | .typ n=>fun v=>v = .type n
 | .bi n=>fun v=>v = .builtin n
 | .top a=>fun v=>v = .ref a
 | .list xs=>InL W Heap.IsList (VRs P C W xs)
 | .tup xs=>InL W IsTup (VRs P C W xs)
 | .dict es=>InD W (VRd P C W es)
 | .set xs=>InS W (axj P xs)
 | .refs i=>InR C W i
 | .obj i=>InO W i
noncomputable def VRs (P:Params) (C:Addr) (W:Wd):List MV→List Value→Prop
 | []=>fun vs=>vs=[]
 | x::xs=>fun vs=>∃ v r,vs=v::r∧VR P C W x v∧VRs P C W xs r
noncomputable def VRd (P:Params) (C:Addr) (W:Wd):List (List UInt8×MV)→List DictEntry→Prop
 | []=>fun es=>es=[]
 | x::r=>fun es=>∃ e es',es=e::es'∧(∃ t,e.hash=bZ8 P x.1∧e.key = .bytes x.1.toArray t)∧VR P C W x.2 e.val∧VRd P C W r es'
end
structure Le (W W':Wd):Prop where
 keep:∀ a o,W.s.heap.get? a=some o→¬ W.D a→W'.s.heap.get? a=some o∧¬ W'.D a
 rho:W.rho <+: W'.rho
theorem Le.refl (W:Wd):Le W W:=⟨fun _ _ h d=>⟨h,d⟩,List.prefix_refl _⟩
theorem Le.trans {W W' W'':Wd} (x:Le W W') (y:Le W' W''):Le W W'':=
 ⟨fun a o h d=>let q:=x.keep a o h d;y.keep a o q.1 q.2,x.rho.trans y.rho⟩
theorem Le.idx {W W':Wd} (x:Le W W') {i:Nat}{a:Addr} (h:W.rho[i]? = some a):W'.rho[i]? = some a:=by
 obtain ⟨t,ht⟩:=x.rho
 rw [← ht,List.getElem?_append_left (List.getElem?_eq_some_iff.mp h).1];exact h
mutual
noncomputable def MV.cl (n:Nat):MV→Prop
 | .list xs=>MV.cls n xs
 | .tup xs=>MV.cls n xs
 | .dict es=>MV.cld n es
 | .refs i=>i < n
 | .obj i=>i < n
 | _=>True
noncomputable def MV.cls (n:Nat):List MV→Prop
 | []=>True
 | x::xs=>MV.cl n x∧MV.cls n xs
noncomputable def MV.cld (n:Nat):List (List UInt8×MV)→Prop
 | []=>True
 | x::xs=>MV.cl n x.2∧MV.cld n xs
end
mutual
theorem VR.shrink {P:Params}{C:Addr}{W W':Wd}{n:Nat} (hk:∀ a o,W.s.heap.get? a=some o→¬ W.D a→W'.s.heap.get? a=some o∧¬ W'.D a) (hr:∀ (i:Nat) (a:Addr),i < n→W.rho[i]? = some a→W'.rho[i]? = some a) :
  ∀ (m:MV) (v:Value),m.cl n→VR P C W m v→VR P C W' m v
 | .unb,_,_,h=>h
 | .none,_,_,h=>h
 | .bool _,_,_,h=>h
 | .int _,_,_,h=>h
 | .bytes _,_,_,h=>h
 | .str _,_,_,h=>h
 | .typ _,_,_,h=>h
 | .bi _,_,_,h=>h
 | .top _,_,_,h=>h
 | .list xs,v,c,h=>by
  obtain ⟨a,vs,hd,⟨o,ho,r⟩,hx⟩:=h
  obtain ⟨q1,q2⟩:=hk a o ho hd
  exact ⟨a,vs,q2,⟨o,q1,r⟩,VRs.shrink hk hr xs vs c hx⟩
 | .tup xs,v,c,h=>by
  obtain ⟨a,vs,hd,⟨o,ho,r⟩,hx⟩:=h
  obtain ⟨q1,q2⟩:=hk a o ho hd
  exact ⟨a,vs,q2,⟨o,q1,r⟩,VRs.shrink hk hr xs vs c hx⟩
 | .dict es,v,c,h=>by
  obtain ⟨a,o,ds,ep,hd,hs,ho,hex,hdt,hx⟩:=h
  obtain ⟨q1,q2⟩:=hk a o ho hd
  exact ⟨a,o,ds,ep,q2,hs,q1,hex,hdt,VRd.shrink hk hr es ds c hx⟩
 | .set xs,v,c,h=>by
  obtain ⟨a,o,hd,ho,hx⟩:=h
  obtain ⟨q1,q2⟩:=hk a o ho hd
  exact ⟨a,o,q2,q1,hx⟩
 | .refs i,v,c,h=>by
  obtain ⟨a,d,t1,t2,h1,h2,r,pe,ep,hd,ho,hd2,ho2,hr2⟩:=h
  obtain ⟨q1,q2⟩:=hk a _ ho hd
  obtain ⟨q3,q4⟩:=hk d _ ho2 hd2
  exact ⟨a,d,t1,t2,h1,h2,r,pe,ep,q2,q1,q4,q3,hr _ _ c hr2⟩
 | .obj i,v,c,h=>by
  obtain ⟨a,hr2⟩:=h
  exact ⟨a,hr _ _ c hr2⟩
theorem VRs.shrink {P:Params}{C:Addr}{W W':Wd}{n:Nat} (hk:∀ a o,W.s.heap.get? a=some o→¬ W.D a→W'.s.heap.get? a=some o∧¬ W'.D a) (hr:∀ (i:Nat) (a:Addr),i < n→W.rho[i]? = some a→W'.rho[i]? = some a) :
  ∀ (m:List MV) (v:List Value),MV.cls n m→VRs P C W m v→VRs P C W' m v
 | [],_,_,h=>h
 | x::xs,vs,c,h=>by
  revert h;refine aQB fun v r e hx hr2=>?_
  exact ⟨v,r,e,VR.shrink hk hr x v c.1 hx,VRs.shrink hk hr xs r c.2 hr2⟩
theorem VRd.shrink {P:Params}{C:Addr}{W W':Wd}{n:Nat} (hk:∀ a o,W.s.heap.get? a=some o→¬ W.D a→W'.s.heap.get? a=some o∧¬ W'.D a) (hr:∀ (i:Nat) (a:Addr),i < n→W.rho[i]? = some a→W'.rho[i]? = some a) :
  ∀ (m:List (List UInt8×MV)) (v:List DictEntry),MV.cld n m→VRd P C W m v→VRd P C W' m v
 | [],_,_,h=>h
 | x::xs,vs,c,h=>by
  revert h;refine aJD fun v r e hk2 hx hr2=>?_
  exact ⟨v,r,e,hk2,VR.shrink hk hr x.2 v.val c.1 hx,VRd.shrink hk hr xs r c.2 hr2⟩
end
mutual
theorem VR.cl {P:Params}{C:Addr}{W:Wd}:∀ (m:MV) (v:Value),VR P C W m v→m.cl W.rho.length
 | .unb,_,h=>trivial
 | .none,_,h=>trivial
 | .bool _,_,h=>trivial
 | .int _,_,h=>trivial
 | .bytes _,_,h=>trivial
 | .str _,_,h=>trivial
 | .typ _,_,h=>trivial
 | .bi _,_,h=>trivial
 | .top _,_,h=>trivial
 | .list xs,v,h=>by
  skip
  obtain ⟨a,vs,hd,hl,hx⟩:=h
  exact VRs.cl xs vs hx
 | .tup xs,v,h=>by
  skip
  obtain ⟨a,vs,hd,hl,hx⟩:=h
  exact VRs.cl xs vs hx
 | .dict es,v,h=>by
  skip
  obtain ⟨a,o,ds,ep,hd,hs,ho,hex,hdt,hx⟩:=h
  exact VRd.cl es ds hx
 | .set xs,v,h=>trivial
 | .refs i,v,h=>by
  skip
  obtain ⟨a,d,t1,t2,h1,h2,r,pe,ep,hd,ho,hd2,ho2,hr2⟩:=h
  exact (List.getElem?_eq_some_iff.mp hr2).1
 | .obj i,v,h=>by
  skip
  obtain ⟨a,hr2⟩:=h
  exact (List.getElem?_eq_some_iff.mp hr2).1
theorem VRs.cl {P:Params}{C:Addr}{W:Wd}:∀ (m:List MV) (v:List Value),VRs P C W m v→MV.cls W.rho.length m
 | [],_,h=>trivial
 | x::xs,vs,h=>by
  skip
  revert h;refine aQB fun v r e hx hr2=>?_
  exact ⟨VR.cl x v hx,VRs.cl xs r hr2⟩
theorem VRd.cl {P:Params}{C:Addr}{W:Wd}:∀ (m:List (List UInt8×MV)) (v:List DictEntry),VRd P C W m v→MV.cld W.rho.length m
 | [],_,h=>trivial
 | x::xs,vs,h=>by
  skip
  revert h;refine aJD fun v r e hk2 hx hr2=>?_
  exact ⟨VR.cl x.2 v.val hx,VRd.cl xs r hr2⟩
end
theorem VR.mono {P:Params}{C:Addr}{W W':Wd} (l:Le W W') (m:MV) (v:Value) (h:VR P C W m v):VR P C W' m v:=VR.shrink l.keep (fun _ _ _ e=>l.idx e) m v (VR.cl m v h) h
theorem VRs.mono {P:Params}{C:Addr}{W W':Wd} (l:Le W W') (m:List MV) (v:List Value) (h:VRs P C W m v):VRs P C W' m v:=VRs.shrink l.keep (fun _ _ _ e=>l.idx e) m v (VRs.cl m v h) h
theorem VRd.mono {P:Params}{C:Addr}{W W':Wd} (l:Le W W') (m:List (List UInt8×MV)) (v:List DictEntry) (h:VRd P C W m v):VRd P C W' m v:=VRd.shrink l.keep (fun _ _ _ e=>l.idx e) m v (VRd.cl m v h) h
theorem aZY {P:Params}{C:Addr}{W:Wd}{i:Int}{t:Tok}:VR P C W (.int i) (.int i t):=by exact ⟨t,rfl⟩
theorem azA {P:Params}{C:Addr}{W:Wd}{b:List UInt8}{t:Tok}:VR P C W (.bytes b) (.bytes b.toArray t):=by exact ⟨t,rfl⟩
theorem bZD {P:Params}{C:Addr}{W:Wd}{b:Str}{t:Tok}:VR P C W (.str b) (.str b t):=by exact ⟨t,rfl⟩
theorem azP {P:Params}{C:Addr}{W:Wd}{b:Bool}:VR P C W (.bool b) (.bool b):=by rfl
theorem aKW {P:Params}{C:Addr}{W:Wd}:VR P C W .none .none:=by rfl
theorem aJn {P:Params}{C:Addr}{W:Wd}{i:Int}{v:Value} (h:VR P C W (.int i) v):∃ t,v = .int i t:=by exact h
theorem ajz {P:Params}{C:Addr}{W:Wd}{i:List UInt8}{v:Value} (h:VR P C W (.bytes i) v):∃ t,v = .bytes i.toArray t:=by exact h
theorem bZj {P:Params}{C:Addr}{W:Wd}{i:Str}{v:Value} (h:VR P C W (.str i) v):∃ t,v = .str i t:=by exact h
theorem bjX {P:Params}{C:Addr}{W:Wd}{i:Bool}{v:Value} (h:VR P C W (.bool i) v):v = .bool i:=by exact h
theorem aK7 {P:Params}{C:Addr}{W:Wd}{v:Value} (h:VR P C W .none v):v = .none:=by exact h
section
variable {P:Params}{C:Addr}{W:Wd}{v:Value}{xs:List MV}{es:List (List UInt8×MV)}{ks:List (List UInt8)}{i:Nat}
theorem aJa (h:VR P C W (.list xs) v):InL W Heap.IsList (VRs P C W xs) v:=by exact h
theorem aZX (h:InL W Heap.IsList (VRs P C W xs) v):VR P C W (.list xs) v:=by exact h
theorem bzG (h:VR P C W (.tup xs) v):InL W IsTup (VRs P C W xs) v:=by exact h
theorem bZC (h:InL W IsTup (VRs P C W xs) v):VR P C W (.tup xs) v:=by exact h
theorem bk6 (h:VR P C W (.dict es) v):InD W (VRd P C W es) v:=by exact h
theorem bJS (h:InD W (VRd P C W es) v):VR P C W (.dict es) v:=by exact h
theorem bZO (h:VR P C W (.set ks) v):InS W (axj P ks) v:=by exact h
theorem bKN (h:InS W (axj P ks) v):VR P C W (.set ks) v:=by exact h
theorem bQ8 (h:VR P C W (.refs i) v):InR C W i v:=by exact h
theorem bZE (h:InR C W i v):VR P C W (.refs i) v:=by exact h
theorem bzH (h:VR P C W (.obj i) v):InO W i v:=by exact h
theorem bZh (h:InO W i v):VR P C W (.obj i) v:=by exact h
theorem bKO:VRs P C W [] []:=by rfl
theorem bv2 {x:MV}{vs:List Value} (h:VR P C W x v) (r:VRs P C W xs vs):VRs P C W (x::xs) (v::vs):=by exact ⟨v,vs,rfl,h,r⟩
end
end Mine
end
section
set_option genSizeOf false
set_option genInjectivity false
namespace Mine
open PySem PySem.W PyProof.Rows PySem.Calls
structure ajA where
 prog:Program
 w:World
 C:Addr
 K:Frag
 mg:Str→Option Value
 mb:Str→Option Value
 tc:Addr
structure aVy (S:ajA) (base:Heap):Prop where
 kin:S.K.In base
 g:base.Ns mainGlobals S.mg
 b:base.Ns builtinsNs S.mb
 blt:∀ x:Str,x≠"__name__"→S.mb x=bootBuiltins x
 nolimit:base.NoLimit
 sys:(base.get? sysModules).isSome
 seer:base.NoSeer
 tree:S.prog.given.tree=none
 bmain:∃ bm ob,S.mg "__builtins__" = some (.ref bm)∧bm≠builtinsNs∧base.get? bm=some ob∧ob.cls = .type "module"∧ob.dict=some builtinsNs∧ob.data = .plain
structure bjl where
 env:Env
 nm:List Str
 loc:List MV
structure Cx where
 env:Env
 nm:List Str
 outer:List bjl
 stk:List Env
 base:Heap
 os:OsState
 pins:List (Addr×Obj):=[]
structure bxa (env:Env):Prop where
 kind:env.scope.kind = .function
 glob:env.globals=mainGlobals
 blt:env.builtins=builtinsNs
noncomputable def NsR (S:ajA) (W:Wd) (env:Env) (nm:List Str) (loc:List MV):Prop:=
 W.D env.locals∧∃ m,W.s.heap.Ns env.locals m∧∀ (k:Nat) (mv:MV),loc[k]? = some mv→mv≠.unb→
  ∃ x v,nm[k]? = some x∧VR S.w.params S.C W mv v∧
   ((env.kindOf x=some .local∧m x=some v)∨
    ((env.kindOf x=some .cell∨env.kindOf x=some .free)∧∃ c o,env.cells.lookup x=some c∧¬ W.D c∧W.s.heap.get? c=some o∧o.data = .cell (some v)))
noncomputable def MOR (S:ajA) (W:Wd):MO→Addr→Prop
 | .dead,_=>True
 | .tab,a=>¬ W.D S.tc∧∃ ps,W.s.heap.IsCode S.tc a ps∧W.s.heap.TableAt S.tc a ps
 | .list xs,a=>∃ vs c,W.s.heap.get? a=some (listOf (List.toArray vs) c)∧VRs S.w.params S.C W xs vs
 | .dict es,a=>∃ ds ep,W.s.heap.get? a=some (dictOf ds ep)∧VRd S.w.params S.C W es ds
 | .set xs,a=>∃ o,W.s.heap.get? a=some o∧axj S.w.params xs o
inductive bXf (S:ajA) (L:Addr) (outer:List bjl) (stk:List Env) (W:Wd) (i:Nat) (mo:MO):Prop
 | mk (a:Addr) (hr:W.rho[i]? = some a) (hD:W.D a) (hm:MOR S W mo a) (hl:a≠L) (ho:∀ r∈outer,a≠r.env.locals) (hs:a∉stk.filterMap (·.frame)):bXf S L outer stk W i mo
structure Rel (S:ajA) (cx:Cx) (W:Wd) (st:MSt):Prop where
 stat:aVy S cx.base
 envok:bxa cx.env
 stays:cx.base.StaysIn W.s.heap
 fresh:∀ a o,cx.base.get? a=some o→¬ W.D a
 dlt:∀ a,W.D a→∃ o,W.s.heap.get? a=some o
 cur:NsR S W cx.env cx.nm st.loc
 outs:∀ r∈cx.outer,NsR S W r.env r.nm r.loc
 apart:∀ r∈cx.outer,r.env.locals≠cx.env.locals
 nmnd:cx.nm.Nodup
 len:W.rho.length=st.objs.length
 rin:∀ a∈W.rho,∃ o,W.s.heap.get? a=some o
 live:∀ (i:Nat) (mo:MO),st.objs[i]? = some mo→mo≠.dead→bXf S cx.env.locals cx.outer cx.stk W i mo
 inj:∀ (i j:Nat) (a:Addr) (mo mo':MO),st.objs[i]? = some mo→mo≠.dead→st.objs[j]? = some mo'→mo'≠.dead→W.rho[i]? = some a→W.rho[j]? = some a→i=j
 stk:W.s.heap.FunFrames cx.base cx.stk
 stkD:∀ L∈cx.stk.filterMap (·.frame),W.D L
 top:∃ e0 r L,cx.stk=e0::r∧e0.frame=some L∧cx.env.frame=some L
 topOK:∀ e0 r,cx.stk=e0::r→e0.scope.isGenerator=false∧e0.scope.isCoroutine=false∧e0.builtins=builtinsNs∧e0.globals=mainGlobals
 gens:AllBare W.s.gens
 os:W.s.os=cx.os
 pins:∀ p∈cx.pins,W.D p.1∧W.s.heap.get? p.1=some p.2∧p.1∉W.rho∧p.1≠cx.env.locals∧(∀ r∈cx.outer,p.1≠r.env.locals)∧p.1∉cx.stk.filterMap (·.frame)
noncomputable def BOk (cx:Cx) (W:Wd) (J:Addr→Prop) (B:Heap):Prop:=∀ a o,W.s.heap.get? a=some o→a∉cx.stk.filterMap (·.frame)→¬ J a→B.get? a=some o
noncomputable def JOk (cx:Cx) (W:Wd) (J:Addr→Prop):Prop:=∀ a,J a→a∉cx.pins.map (·.1)∧W.D a∧a∉W.rho∧a≠cx.env.locals∧(∀ r∈cx.outer,a≠r.env.locals)∧∃ o,W.s.heap.get? a=some o∧∀ vs,o.data≠.fields vs
inductive Fly (cx:Cx) (W:Wd) (e:Addr) (cls:Value) (s':Shared):Prop where
 | fresh (ob:Obj) (a0:Value) (vs:Array Value) (keeps:∀ b o,W.s.heap.get? b=some o→s'.heap.get? b=some o) (new:W.s.heap.get? e=none) (he:s'.heap.get? e=some ob)
   (hc:ob.cls=cls) (hd:ob.data = .fields vs) (h0:vs[0]? = some a0) (h1:vs[1]? = some .none) (hg:s'.gens=W.s.gens) (ho:s'.os=W.s.os)
 | traced (B:Heap) (a0 fl:Value) (J:Addr→Prop) (hB:BOk cx W J B)
   (hJ:JOk cx W J)
   (up:W.s.heap.UpToSlots s'.heap) (stays:B.StaysIn s'.heap) (new:B.get? e=none) (ff:s'.heap.FunFrames B cx.stk) (tr:s'.heap.TracedAtW B e cls a0 fl)
   (hfl:fl = .none∨∃ L,cx.env.frame=some L∧fl=rawInt L) (hg:s'.gens=W.s.gens) (ho:s'.os=W.s.os)
structure AOK (cx:Cx) (d:Nat) (A:Around):Prop where
 frames:A.frames=some cx.stk
 depth:A.depth + 4 * d + 110 < recursionLimit
 units:A.units + 16 * d + 16 < cLine
 handled:A.handled=none
theorem AOK.d100 {cx:Cx}{d:Nat}{A:Around} (h:AOK cx d A):A.depth + 100 < recursionLimit:=Nat.lt_of_le_of_lt (by rw [Nat.add_assoc];exact Nat.add_le_add_left (Nat.le_trans (by decide) (Nat.le_add_left 110 (4 * d))) _) h.depth
theorem AOK.d0 {cx:Cx}{d:Nat}{A:Around} (h:AOK cx d A):A.depth < recursionLimit:=Nat.lt_of_le_of_lt (Nat.le_add_right _ 100) h.d100
theorem AOK.d1 {cx:Cx}{d:Nat}{A:Around} (h:AOK cx d A):A.depth + 1 < recursionLimit:=Nat.lt_of_le_of_lt (Nat.add_le_add_left (by decide) _) h.d100
theorem AOK.u16 {cx:Cx}{d:Nat}{A:Around} (h:AOK cx d A):A.units + 16 < cLine:=Nat.lt_of_le_of_lt (Nat.add_le_add_right (Nat.le_add_right _ _) 16) h.units
theorem AOK.u0 {cx:Cx}{d:Nat}{A:Around} (h:AOK cx d A):A.units < cLine:=Nat.lt_of_le_of_lt (Nat.le_add_right _ 16) h.u16
structure Sig where
 sc:Scope
 nm:List Str
 code:Option Value:=none
noncomputable def Sig.fits (g:Sig) (cx:Cx):Prop:=cx.env.scope=g.sc∧cx.nm=g.nm∧∀ c,g.code=some c→cx.env.code=c
noncomputable def QOk (S:ajA) (cx:Cx) {α β : Type} (rel:Wd→α→β→Prop) (W:Wd) (QM : α→MSt→Prop) (Q : β→Shared→Prop):Prop:=∀ W' st' a b,Le W W'→Rel S cx W' st'→rel W' a b→QM a st'→Q b W'.s
noncomputable def UOk (S:ajA) (cx:Cx) (W:Wd) (QM:Unit→MSt→Prop) (Q:Unit→Shared→Prop):Prop:=∀ W' st',Le W W'→Rel S cx W' st'→QM () st'→Q () W'.s
noncomputable def EOk (S:ajA) (cx:Cx) (W:Wd) (EM:Value→MSt→Prop) (E:Value→Shared→Prop):Prop:=∀ W' st' e cls s'',Le W W'→Rel S cx W' st'→Fly cx W' e cls s''→EM cls st'→E (.ref e) s''
theorem QOk.tr {S:ajA}{cx:Cx}{α β : Type}{rel:Wd→α→β→Prop}{W W₁:Wd}{QM : α→MSt→Prop}{Q : β→Shared→Prop} (h:QOk S cx rel W QM Q) (l:Le W W₁):QOk S cx rel W₁ QM Q:=fun W' st' x y l'=>h W' st' x y (l.trans l')
theorem UOk.tr {S:ajA}{cx:Cx}{W W₁:Wd}{QM:Unit→MSt→Prop}{Q:Unit→Shared→Prop} (h:UOk S cx W QM Q) (l:Le W W₁):UOk S cx W₁ QM Q:=fun W' st' l'=>h W' st' (l.trans l')
theorem EOk.tr {S:ajA}{cx:Cx}{W W₁:Wd}{EM:Value→MSt→Prop}{E:Value→Shared→Prop} (h:EOk S cx W EM E) (l:Le W W₁):EOk S cx W₁ EM E:=fun W' st' e c s'' l'=>h W' st' e c s'' (l.trans l')
structure az7 {α β : Type} (S:ajA) (g:Sig) (d:Nat) (rel:Wd→α→β→Prop) (t:Env→Sem β) (m:M α):Prop where
 run:∀ (cx:Cx) (A:Around) (W:Wd) (st:MSt) (QM : α→MSt→Prop) (EM:Value→MSt→Prop) (Q : β→Shared→Prop) (E:Value→Shared→Prop),
  g.fits cx→AOK cx d A→Rel S cx W st→m st QM EM→
  (QOk S cx rel W QM Q)→
  (EOk S cx W EM E)→
  wpAny (model S.prog S.w) A (t cx.env) Q E W.s
noncomputable abbrev aj5 (S:ajA) (g:Sig) (d:Nat) (e:Expr) (m:M MV):Prop:=az7 S g d (VR S.w.params S.C) (eval e) m
noncomputable abbrev ajf (S:ajA) (g:Sig) (d:Nat) (e:Expr) (m:M Bool):Prop:=az7 S g d (fun _ a b=>a=b) (fun env=>isTrue e env (eval e env)) m
inductive MF where
 | next | brk | cont | ret (v:MV)
noncomputable def FR (P:Params) (C:Addr) (W:Wd):MF→Flow→Prop
 | .next,f=>f = .next
 | .brk,f=>f = .brk
 | .cont,f=>f = .cont
 | .ret m,f=>∃ v,f = .ret v∧VR P C W m v
noncomputable abbrev aj9 (S:ajA) (g:Sig) (d:Nat) (st:Stmt) (m:M MF):Prop:=az7 S g d (FR S.w.params S.C) (exec st) m
noncomputable abbrev aj1 (S:ajA) (g:Sig) (d:Nat) (st:List Stmt) (m:M MF):Prop:=az7 S g d (FR S.w.params S.C) (execs st) m
theorem NsR.step {S:ajA}{W W':Wd}{env:Env}{nm:List Str}{loc:List MV} (h:NsR S W env nm loc) (l:Le W W') (hD:W'.D env.locals)
  (hk:∀ m,W.s.heap.Ns env.locals m→W'.s.heap.Ns env.locals m):NsR S W' env nm loc:=by
 revert h;refine aZc fun _ m hm hv=>?_
 refine ⟨hD,m,hk m hm,fun k mv hk' hu=>?_⟩
 refine ax0 (hv k mv hk' hu) fun x v hx hr hcase=>?_
 refine ⟨x,v,hx,VR.mono l _ _ hr,hcase.imp id fun ⟨q,c,o,h1,h2,h3,h4⟩=>?_⟩
 obtain ⟨q1,q2⟩:=l.keep c o h3 h2
 exact ⟨q,c,o,h1,q2,q1,h4⟩
theorem MOR.step {S:ajA}{W W':Wd}{mo:MO}{a:Addr} (h:MOR S W mo a) (l:Le W W') (hk:∀ o,W.s.heap.get? a=some o→W'.s.heap.get? a=some o):MOR S W' mo a:=by
 cases mo with
 | dead=>trivial
 | tab=>
  revert h;refine aZc fun hD ps hi ht=>?_
  revert hi;refine az3 fun o vs file tf flags r8_=>?_;revert r8_;refine az3 fun tg inF text tt op r8_=>?_;revert r8_;refine akT fun g1 r1 r2 r3 r4 r8_=>?_;revert r8_;refine aZd fun r5 r6 g2 r7=>?_
  obtain ⟨⟨o',vs',k1,k2⟩,k3⟩:=ht
  obtain ⟨q1,q2⟩:=l.keep _ _ g1 hD
  obtain ⟨q3,_⟩:=l.keep _ _ k1 hD
  exact ⟨q2,ps,⟨o,vs,file,tf,flags,tg,inF,text,tt,op,q1,r1,r2,r3,r4,r5,r6,hk _ g2,r7⟩,⟨o',vs',q3,k2⟩,hk _ k3⟩
 | list xs=>revert h;refine aq2 fun vs c h1 h2=>?_;exact ⟨vs,c,hk _ h1,VRs.mono l _ _ h2⟩
 | dict es=>revert h;refine aq2 fun ds ep h1 h2=>?_;exact ⟨ds,ep,hk _ h1,VRd.mono l _ _ h2⟩
 | set xs=>revert h;refine azC fun o h1 h2=>?_;exact ⟨o,hk _ h1,h2⟩
theorem Rel.keeps {S:ajA}{cx:Cx}{W:Wd}{st:MSt} (R:Rel S cx W st) {s':Shared} (hk:∀ b o,W.s.heap.get? b=some o→s'.heap.get? b=some o)
  (hg:AllBare s'.gens) (ho:s'.os=W.s.os):Le W { W with s:=s' }∧Rel S cx { W with s:=s' } st:=by
 have l:Le W { W with s:=s' }:=⟨fun a o h d=>⟨hk a o h,d⟩,List.prefix_refl _⟩
 refine ⟨l,?_⟩
 exact {
  stat:=R.stat
  envok:=R.envok
  stays:=fun b o e=>hk b o (R.stays b o e)
  fresh:=R.fresh
  dlt:=fun a h=>let ⟨o,e⟩:=R.dlt a h;⟨o,hk a o e⟩
  cur:=R.cur.step l R.cur.1 fun m hm=>hm.keeps hk
  outs:=fun r hr=>(R.outs r hr).step l (R.outs r hr).1 fun m hm=>hm.keeps hk
  apart:=R.apart
  nmnd:=R.nmnd
  len:=R.len
  rin:=fun a h=>let ⟨o,e⟩:=R.rin a h;⟨o,hk a o e⟩
  live:=fun i mo h1 h2=>by
   obtain ⟨a,h3,h4,h5,h6,h7,h8⟩:=R.live i mo h1 h2
   exact ⟨a,h3,h4,h5.step l fun o=>hk a o,h6,h7,h8⟩
  inj:=R.inj
  stk:=R.stk.of_keeps fun b o h _=>⟨o,hk b o h,rfl⟩
  stkD:=R.stkD
  top:=R.top
  topOK:=R.topOK
  gens:=hg
  os:=ho.trans R.os
  pins:=fun p hp=>let ⟨q1,q2,q3⟩:=R.pins p hp;⟨q1,hk _ _ q2,q3⟩ }
theorem Rel.same {S:ajA}{cx:Cx}{W:Wd}{st:MSt} (R:Rel S cx W st) {s':Shared} (hh:s'.heap=W.s.heap)
  (hg:s'.gens=W.s.gens) (ho:s'.os=W.s.os):Le W { W with s:=s' }∧Rel S cx { W with s:=s' } st:=
 R.keeps (fun b o e=>by rw [hh];exact e) (by rw [hg];exact R.gens) ho
theorem NsR.get {S:ajA}{W:Wd}{env:Env}{nm:List Str}{loc:List MV} (h:NsR S W env nm loc) {k:Nat}{mv:MV}{x:Str} (h1:loc[k]? = some mv) (h2:mv≠.unb) (h3:nm[k]? = some x) :
  ∃ v,VR S.w.params S.C W mv v∧((∃ m,W.s.heap.Ns env.locals m∧env.kindOf x=some .local∧m x=some v)∨
    ((env.kindOf x=some .cell∨env.kindOf x=some .free)∧∃ c o,env.cells.lookup x=some c∧¬ W.D c∧W.s.heap.get? c=some o∧o.data = .cell (some v))):=by
 revert h;refine aZc fun _ m hm hv=>?_
 refine ax0 (hv k mv h1 h2) fun x' v hx hr hc=>?_
 rw [h3] at hx;cases hx
 exact ⟨v,hr,hc.imp (fun q=>⟨m,hm,q⟩) id⟩
end Mine
end
section
namespace Mine
open PySem PySem.W PyProof.Rows PySem.Calls
noncomputable def ret {α : Type} (a : α):M α:=fun st Q _=>Q a st
noncomputable def bnd {α β : Type} (m:M α) (f : α→M β):M β:=fun st Q E=>m st (fun a st'=>f a st' Q E) E
noncomputable def azk {α : Type}:M α:=fun _ _ _=>False
noncomputable def axC {α : Type} (c:Value):M α:=fun st _ E=>E c st
noncomputable def aqg {α : Type} (p:Prop) (m:M α):M α:=fun st Q E=>p∧m st Q E
noncomputable def bV:MV→Prop→Prop
 | .unb,_=>False
 | .none,p | .bool _,p | .int _,p | .bytes _,p | .str _,p | .typ _,p | .bi _,p | .top _,p | .list _,p | .tup _,p | .dict _,p | .set _,p | .refs _,p | .obj _,p=>p
noncomputable def aXd {α : Type}:Option α→(α→Prop)→Prop
 | some r,p=>p r
 | none,_=>False
theorem akW {α : Type}{x:Option α}{p : α→Prop} (h:aXd x p):∃ r,x=some r∧p r:=by
 cases x with
 | none=>exact h.elim
 | some r=>exact ⟨r,rfl,h⟩
noncomputable def gE {α : Type} (xs:List MV) (n:Nat) (m:M α):M α:=fun st Q E=>cond (Nat.beq xs.length n) (m st Q E) False
theorem bZr {α : Type}{xs:List MV}{n:Nat}{m:M α}{st:MSt}{Q : α→MSt→Prop}{E:Value→MSt→Prop} (h:gE xs n m st Q E):xs.length=n∧m st Q E:=by
 unfold gE at h
 cases hb:Nat.beq xs.length n with
 | false=>rw [hb] at h;exact h.elim
 | true=>rw [hb] at h;exact ⟨Nat.eq_of_beq_eq_true hb,h⟩
noncomputable def gN {α : Type} (xs:List MV) (m:M α):M α:=fun st Q E=>cond (Nat.ble xs.length 1000) (m st Q E) False
theorem bZq {α : Type}{xs:List MV}{m:M α}{st:MSt}{Q : α→MSt→Prop}{E:Value→MSt→Prop} (h:gN xs m st Q E):xs.length≤1000∧m st Q E:=by
 unfold gN at h
 cases hb:Nat.ble xs.length 1000 with
 | false=>rw [hb] at h;exact h.elim
 | true=>rw [hb] at h;exact ⟨Nat.le_of_ble_eq_true hb,h⟩
theorem bJF {a:MV}{p:Prop} (h:bV a p):a≠.unb∧p:=by cases a<;>first | exact h.elim | exact ⟨nofun,h⟩
noncomputable def bL:Nat→List MV→Prop→Prop
 | _,[],_=>False
 | 0,_::_,p=>p
 | k + 1,_::l,p=>bL k l p
theorem bX9:∀ {k:Nat}{l:List MV}{p:Prop},bL k l p→p
 | 0,_::_,_,h=>h
 | k + 1,_::l,_,h=>bX9 (k:=k) (l:=l) h
noncomputable def getL (k:Nat):M MV:=fun st Q _=>bV (st.loc.getD k .unb) (Q (st.loc.getD k .unb) st)
noncomputable def ajD (k:Nat) (v:MV):M Unit:=fun st Q _=>bL k st.loc (bV v (Q () ⟨st.loc.set k v,st.objs⟩))
section
variable {S:ajA}{g:Sig}{d:Nat}
theorem az7.of_pure {α β : Type}{rel:Wd→α→β→Prop}{t:Env→Sem β}{a : α}{b:Shared→β}
  (h:∀ (cx:Cx) (A:Around) (s:Shared) (Q : β→Shared→Prop) (E:Value→Shared→Prop),g.fits cx→(∀ k,Q (b { s with toks:=k }) { s with toks:=k })→
   (∀ k:Nat,Q (b s) { s with toks:=k })→wpAny (model S.prog S.w) A (t cx.env) Q E s) (hr:∀ W s,rel W a (b s)):az7 S g d rel t (ret a):=by
 refine ⟨fun cx A W st QM EM Q E hg hA R hm hQ hE=>?_⟩
 refine h cx A W.s Q E hg (fun k=>?_) fun k=>?_
 ·obtain ⟨l,R'⟩:=R.same (s':={ W.s with toks:=k }) rfl rfl rfl
  exact hQ _ st a _ l R' (hr _ _) hm
 ·obtain ⟨l,R'⟩:=R.same (s':={ W.s with toks:=k }) rfl rfl rfl
  exact hQ _ st a _ l R' (hr _ _) hm
theorem aj5.cNone {k pos}:aj5 S g d (.Constant .none k pos) (ret .none):=
 az7.of_pure (b:=fun _=>Value.none) (fun cx A s Q E _ _ h=>wpAny_Constant_none (h s.toks)) fun _ _=>aKW
theorem aj5.cBool {b k pos}:aj5 S g d (.Constant (.bool b) k pos) (ret (.bool b)):=
 az7.of_pure (b:=fun _=>Value.bool b) (fun cx A s Q E _ _ h=>wpAny_Constant_bool (h s.toks)) fun _ _=>azP
theorem aj5.cInt {i k pos}:aj5 S g d (.Constant (.int i) k pos) (ret (.int i)):=
 az7.of_pure (b:=fun s=>Value.int i s.toks) (fun cx A s Q E _ _ h=>wpAny_Constant_int (h (s.toks + 1))) fun _ _=>aZY
theorem aj5.cStr {x k pos}:aj5 S g d (.Constant (.str x) k pos) (ret (.str x)):=
 az7.of_pure (b:=fun s=>Value.str x s.toks) (fun cx A s Q E _ _ h=>wpAny_Constant_str (h (s.toks + 1))) fun _ _=>bZD
theorem aj5.cBytes {x k pos}:aj5 S g d (.Constant (.bytes x) k pos) (ret (.bytes x)):=
 az7.of_pure (b:=fun s=>Value.bytes x.toArray s.toks) (fun cx A s Q E _ _ h=>Constant_bytes (h (s.toks + 1))) fun _ _=>azA
theorem aj5.loc {x:Str}{pos:Pos} (k:Nat) (hx:g.nm[k]? = some x) (hk:g.sc.names.lookup x=some .local) (hd:(x == ("__debug__" : Str))=false) :
  aj5 S g d (.Name x pos) (getL k):=by
 refine ⟨fun cx A W st QM EM Q E hg hA R hm hQ hE=>?_⟩
 obtain ⟨hu,hm⟩:=bJF hm
 have hsome:st.loc[k]? = some (st.loc.getD k .unb):=by
  rw [List.getD_eq_getElem?_getD] at hu ⊢
  cases h:st.loc[k]? with
  | none=>rw [h] at hu;exact absurd rfl hu
  | some v=>rfl
 refine ajl (R.cur.get hsome hu (by rw [hg.2.1];exact hx)) fun v hv hc=>?_
 have hkk:cx.env.kindOf x=some .local:=by unfold Env.kindOf;rw [hg.1];exact hk
 rcases hc with ⟨m,hns,_,hmx⟩ | ⟨hc,_⟩
 ·exact wpAny_Name (wpAny_loadName_local R.envok.kind hkk hns hmx (hQ W st _ v (Le.refl W) R hv hm)) hd
 ·rw [hkk] at hc;rcases hc with hc | hc<;>cases hc
theorem aj5.glob {x:Str}{pos:Pos}{mv:MV}{v:Value} (hk:g.sc.names.lookup x=some .globalImplicit) (hm:S.mg x=some v) (hr:∀ W,VR S.w.params S.C W mv v) (hd:(x == ("__debug__" : Str))=false) :
  aj5 S g d (.Name x pos) (ret mv):=by
 refine ⟨fun cx A W st QM EM Q E hg hA R hq hQ hE=>?_⟩
 have hkk:cx.env.kindOf x=some .globalImplicit:=by unfold Env.kindOf;rw [hg.1];exact hk
 exact Name_function_global R.envok.kind hkk (loadGlobal_global (by rw [R.envok.glob];exact R.stat.g.keeps R.stays) hm (hQ W st _ v (Le.refl W) R (hr W) hq)) hd
theorem aj5.glbt {x:Str}{pos:Pos}{mv:MV}{v:Value} (hk:g.sc.names.lookup x=some .globalImplicit) (hm:S.mg x=none) (hb:bootBuiltins x=some v) (hn:x≠"__name__")
  (hr:∀ W,VR S.w.params S.C W mv v) (hd:(x == ("__debug__" : Str))=false) :
  aj5 S g d (.Name x pos) (ret mv):=by
 refine ⟨fun cx A W st QM EM Q E hg hA R hq hQ hE=>?_⟩
 have hkk:cx.env.kindOf x=some .globalImplicit:=by unfold Env.kindOf;rw [hg.1];exact hk
 exact Name_function_global R.envok.kind hkk (loadGlobal_builtin (by rw [R.envok.glob];exact R.stat.g.keeps R.stays) hm (by rw [R.envok.blt];exact R.stat.b.keeps R.stays)
  ((R.stat.blt x hn).trans hb) (hQ W st _ v (Le.refl W) R (hr W) hq)) hd
noncomputable def aj4 (S:ajA) (d:Nat) (t:Value→Value→Sem Value) (m:MV→MV→M MV):Prop:=
 ∀ (cx:Cx) (A:Around) (W:Wd) (st:MSt) (QM:MV→MSt→Prop) (EM:Value→MSt→Prop) (Q:Value→Shared→Prop) (E:Value→Shared→Prop) (a b:MV) (u v:Value),
  AOK cx d A→Rel S cx W st→VR S.w.params S.C W a u→VR S.w.params S.C W b v→m a b st QM EM→
  (QOk S cx (VR S.w.params S.C) W QM Q)→
  (EOk S cx W EM E)→
  wpAny (model S.prog S.w) A (t u v) Q E W.s
noncomputable def azO (S:ajA) (d:Nat) {α β : Type} (rel:Wd→α→β→Prop) (t:Value→Sem β) (m:MV→M α):Prop:=
 ∀ (cx:Cx) (A:Around) (W:Wd) (st:MSt) (QM : α→MSt→Prop) (EM:Value→MSt→Prop) (Q : β→Shared→Prop) (E:Value→Shared→Prop) (a:MV) (u:Value),
  AOK cx d A→Rel S cx W st→VR S.w.params S.C W a u→m a st QM EM→
  (QOk S cx rel W QM Q)→
  (EOk S cx W EM E)→
  wpAny (model S.prog S.w) A (t u) Q E W.s
theorem hide {T:Prop} (h:∀ G:Prop,(T→G)→G):T:=h T id
theorem az7.then {α β : Type}{rel:Wd→α→β→Prop}{t:Env→Sem β}{m:M α} (h:az7 S g d rel t m)
  {cx:Cx}{A:Around}{W:Wd}{st:MSt}{QM : α→MSt→Prop}{EM:Value→MSt→Prop}{Q : β→Shared→Prop}{E:Value→Shared→Prop}
  (hg:g.fits cx) (hA:AOK cx d A) (R:Rel S cx W st) (hm:m st QM EM)
  (hQ:QOk S cx rel W QM Q)
  (hE:EOk S cx W EM E) :
  wpAny (model S.prog S.w) A (t cx.env) Q E W.s:=h.run cx A W st QM EM Q E hg hA R hm hQ hE
theorem aj5.bin {l r:Expr}{op:Operator}{pos:Pos}{ml mr:M MV}{mo:MV→MV→M MV} (hl:aj5 S g d l ml) (hr:aj5 S g d r mr) (ho:aj4 S d (binaryOp op) mo) :
  aj5 S g d (.BinOp l op r pos) (bnd ml fun a=>bnd mr fun b=>mo a b):=by
 refine ⟨fun cx A W st QM EM Q E hg hA R hm hQ hE=>?_⟩
 refine wpAny_BinOp (hl.then hg hA R hm (fun W₁ st₁ a u l₁ R₁ va hm₁=>?_) hE)
 refine hr.then hg hA R₁ hm₁ (fun W₂ st₂ b v l₂ R₂ vb hm₂=>?_) (hE.tr l₁)
 exact ho cx A W₂ st₂ QM EM Q E a b u v hA R₂ (VR.mono l₂ _ _ va) vb hm₂ (hQ.tr (l₁.trans l₂)) (hE.tr (l₁.trans l₂))
theorem aj5.un {x:Expr}{op:UnaryOp}{pos:Pos}{mx:M MV}{mo:MV→M MV} (hx:aj5 S g d x mx) (ho:azO S d (VR S.w.params S.C) (unaryOp op) mo) :
  aj5 S g d (.UnaryOp op x pos) (bnd mx mo):=by
 refine ⟨fun cx A W st QM EM Q E hg hA R hm hQ hE=>?_⟩
 refine wpAny_UnaryOp (hx.then hg hA R hm (fun W₁ st₁ a u l₁ R₁ va hm₁=>?_) hE)
 exact ho cx A W₁ st₁ QM EM Q E a u hA R₁ va hm₁ (hQ.tr l₁) (hE.tr l₁)
theorem aj5.cmp {l r:Expr}{op:CmpOp}{pos:Pos}{ml mr:M MV}{mo:MV→MV→M MV} (hl:aj5 S g d l ml) (hr:aj5 S g d r mr) (ho:aj4 S d (compareOp op) mo) (hb:behindInMarks op r=false) :
  aj5 S g d (.Compare l [op] [r] pos) (bnd ml fun a=>bnd mr fun b=>mo a b):=by
 refine ⟨fun cx A W st QM EM Q E hg hA R hm hQ hE=>?_⟩
 refine wpAny_Compare1 (hl.then hg hA R hm (fun W₁ st₁ a u l₁ R₁ va hm₁=>?_) hE) hb
 refine hr.then hg hA R₁ hm₁ (fun W₂ st₂ b v l₂ R₂ vb hm₂=>?_) (hE.tr l₁)
 exact ho cx A W₂ st₂ QM EM Q E a b u v hA R₂ (VR.mono l₂ _ _ va) vb hm₂ (hQ.tr (l₁.trans l₂)) (hE.tr (l₁.trans l₂))
noncomputable def ifM {α : Type} (c:M Bool) (a b:M α):M α:=fun st Q E=>c st (fun t st'=>cond t (a st' Q E) (b st' Q E)) E
theorem aj5.ife {t b o:Expr}{pos:Pos}{mt:M Bool}{mb mo:M MV} (ht:ajf S g d t mt) (hb:aj5 S g d b mb) (ho:aj5 S g d o mo) :
  aj5 S g d (.IfExp t b o pos) (ifM mt mb mo):=by
 refine ⟨fun cx A W st QM EM Q E hg hA R hm hQ hE=>?_⟩
 refine wpAny_IfExp (az7.then ht hg hA R hm (fun W₁ st₁ c c' l₁ R₁ e hm₁=>?_) hE)
 subst e
 cases c with
 | true=>exact hb.then hg hA R₁ hm₁ (hQ.tr l₁) (hE.tr l₁)
 | false=>exact ho.then hg hA R₁ hm₁ (hQ.tr l₁) (hE.tr l₁)
noncomputable abbrev TB (S:ajA) (d:Nat) (m:MV→M Bool):Prop:=azO S d (fun _ a b=>a=b) truthy m
theorem ajf.val {e:Expr}{m:M MV}{mt:MV→M Bool} (h:aj5 S g d e m) (ht:TB S d mt) (he:∀ env whole,isTrue e env whole=(do let v ← whole;standAt e.pos;holding [v] (truthy v))) :
  ajf S g d e (bnd m mt):=by
 refine ⟨fun cx A W st QM EM Q E hg hA R hm hQ hE=>?_⟩
 refine wpAny_isTrue_value (h.then hg hA R hm (fun W₁ st₁ a u l₁ R₁ va hm₁=>?_) hE) (he _ _)
 exact ht cx A W₁ st₁ QM EM Q E a u hA R₁ va hm₁ (hQ.tr l₁) (hE.tr l₁)
theorem ajf.not {x:Expr}{pos:Pos}{m:M Bool} (h:ajf S g d x m):ajf S g d (.UnaryOp .Not x pos) (bnd m fun b=>ret !b):=by
 refine ⟨fun cx A W st QM EM Q E hg hA R hm hQ hE=>?_⟩
 refine wpAny_isTrue_Not (az7.then h hg hA R hm (fun W₁ st₁ a u l₁ R₁ e hm₁=>?_) hE)
 subst e
 exact hQ _ _ _ _ l₁ R₁ rfl hm₁
theorem ajf.cmp {l r:Expr}{op:CmpOp}{pos:Pos}{ml mr:M MV}{mo:MV→MV→M MV}{mt:MV→M Bool} (hl:aj5 S g d l ml) (hr:aj5 S g d r mr) (ho:aj4 S d (compareOp op) mo) (ht:TB S d mt)
  (hb:behindInMarks op r=false):ajf S g d (.Compare l [op] [r] pos) (bnd ml fun a=>bnd mr fun b=>bnd (mo a b) mt):=by
 refine ⟨fun cx A W st QM EM Q E hg hA R hm hQ hE=>?_⟩
 refine wpAny_isTrue_Compare1 (hl.then hg hA R hm (fun W₁ st₁ a u l₁ R₁ va hm₁=>?_) hE) hb
 refine hr.then hg hA R₁ hm₁ (fun W₂ st₂ b v l₂ R₂ vb hm₂=>?_) (hE.tr l₁)
 refine ho cx A W₂ st₂ _ EM _ E a b u v hA R₂ (VR.mono l₂ _ _ va) vb hm₂ (fun W₃ st₃ x y l₃ R₃ vx hm₃=>?_) (hE.tr (l₁.trans l₂))
 exact ht cx A W₃ st₃ QM EM Q E x y hA R₃ vx hm₃ (hQ.tr (l₁.trans (l₂.trans l₃))) (hE.tr (l₁.trans (l₂.trans l₃)))
noncomputable abbrev aj8 (S:ajA) (g:Sig) (d:Nat) (op:BoolOp) (es:List Expr) (m:M Bool):Prop:=az7 S g d (fun _ a b=>a=b) (fun env=>allTrue op es env) m
theorem aj8.andNil:aj8 S g d .And [] (ret true):=⟨fun cx A W st QM EM Q E hg hA R hm hQ hE=>wpAny_allTrue_And_nil (hQ W st _ _ (Le.refl W) R rfl hm)⟩
theorem aj8.orNil:aj8 S g d .Or [] (ret false):=⟨fun cx A W st QM EM Q E hg hA R hm hQ hE=>wpAny_allTrue_Or_nil (hQ W st _ _ (Le.refl W) R rfl hm)⟩
theorem aj8.and {x:Expr}{r:List Expr}{mx mr:M Bool} (hx:ajf S g d x mx) (hr:aj8 S g d .And r mr):aj8 S g d .And (x::r) (ifM mx mr (ret false)):=by
 refine ⟨fun cx A W st QM EM Q E hg hA R hm hQ hE=>?_⟩
 refine wpAny_allTrue_And_cons (az7.then hx hg hA R hm (fun W₁ st₁ c c' l₁ R₁ e hm₁=>?_) hE)
 subst e
 cases c with
 | true=>exact az7.then hr hg hA R₁ hm₁ (hQ.tr l₁) (hE.tr l₁)
 | false=>exact hQ _ _ _ _ l₁ R₁ rfl hm₁
theorem aj8.or {x:Expr}{r:List Expr}{mx mr:M Bool} (hx:ajf S g d x mx) (hr:aj8 S g d .Or r mr):aj8 S g d .Or (x::r) (ifM mx (ret true) mr):=by
 refine ⟨fun cx A W st QM EM Q E hg hA R hm hQ hE=>?_⟩
 refine wpAny_allTrue_Or_cons (az7.then hx hg hA R hm (fun W₁ st₁ c c' l₁ R₁ e hm₁=>?_) hE)
 subst e
 cases c with
 | false=>exact az7.then hr hg hA R₁ hm₁ (hQ.tr l₁) (hE.tr l₁)
 | true=>exact hQ _ _ _ _ l₁ R₁ rfl hm₁
theorem ajf.bop {op:BoolOp}{es:List Expr}{pos:Pos}{m:M Bool} (h:aj8 S g d op es m):ajf S g d (.BoolOp op es pos) m:=by
 refine ⟨fun cx A W st QM EM Q E hg hA R hm hQ hE=>?_⟩
 exact wpAny_isTrue_BoolOp (az7.then h hg hA R hm hQ hE)
noncomputable abbrev az2 (S:ajA) (g:Sig) (d:Nat) (pos:Pos) (op:BoolOp) (es:List Expr) (m:M MV):Prop:=az7 S g d (VR S.w.params S.C) (fun env=>boolOp pos op (evalEach es env)) m
theorem az2.one {pos:Pos}{op:BoolOp}{x:Expr}{m:M MV} (h:aj5 S g d x m):az2 S g d pos op [x] m:=⟨fun cx A W st QM EM Q E hg hA R hm hQ hE=>h.run cx A W st QM EM Q E hg hA R hm hQ hE⟩
theorem az2.and {pos:Pos}{x y:Expr}{r:List Expr}{mx mr:M MV}{mt:MV→M Bool} (hx:aj5 S g d x mx) (ht:TB S d mt) (hr:az2 S g d pos .And (y::r) mr) :
  az2 S g d pos .And (x::y::r) (bnd mx fun a=>bnd (mt a) fun t=>cond t mr (ret a)):=by
 refine ⟨fun cx A W st QM EM Q E hg hA R hm hQ hE=>?_⟩
 show wpAny _ _ (do
  let v ← eval x cx.env
  standAt pos
  let t ← holding [v] (truthy v)
  match BoolOp.And,t with
  | .And,false | .Or,true=>pure v
  | _,_=>boolOp pos .And (evalEach (y::r) cx.env)) Q E W.s
 refine wpAny_bind (hx.then hg hA R hm (fun W₁ st₁ a u l₁ R₁ va hm₁=>wpAny_bind (wpAny_standAt (wpAny_bind (wpAny_holding ?_)))) hE)
 refine ht cx A W₁ st₁ _ EM _ E a u hA R₁ va hm₁ (fun W₂ st₂ c c' l₂ R₂ e hm₂=>?_) (hE.tr l₁)
 subst e
 cases c with
 | false=>exact wpAny_pure (hQ _ _ _ _ (l₁.trans l₂) R₂ (VR.mono l₂ _ _ va) hm₂)
 | true=>exact az7.then hr hg hA R₂ hm₂ (hQ.tr (l₁.trans l₂)) (hE.tr (l₁.trans l₂))
theorem az2.or {pos:Pos}{x y:Expr}{r:List Expr}{mx mr:M MV}{mt:MV→M Bool} (hx:aj5 S g d x mx) (ht:TB S d mt) (hr:az2 S g d pos .Or (y::r) mr) :
  az2 S g d pos .Or (x::y::r) (bnd mx fun a=>bnd (mt a) fun t=>cond t (ret a) mr):=by
 refine ⟨fun cx A W st QM EM Q E hg hA R hm hQ hE=>?_⟩
 show wpAny _ _ (do
  let v ← eval x cx.env
  standAt pos
  let t ← holding [v] (truthy v)
  match BoolOp.Or,t with
  | .And,false | .Or,true=>pure v
  | _,_=>boolOp pos .Or (evalEach (y::r) cx.env)) Q E W.s
 refine wpAny_bind (hx.then hg hA R hm (fun W₁ st₁ a u l₁ R₁ va hm₁=>wpAny_bind (wpAny_standAt (wpAny_bind (wpAny_holding ?_)))) hE)
 refine ht cx A W₁ st₁ _ EM _ E a u hA R₁ va hm₁ (fun W₂ st₂ c c' l₂ R₂ e hm₂=>?_) (hE.tr l₁)
 subst e
 cases c with
 | true=>exact wpAny_pure (hQ _ _ _ _ (l₁.trans l₂) R₂ (VR.mono l₂ _ _ va) hm₂)
 | false=>exact az7.then hr hg hA R₂ hm₂ (hQ.tr (l₁.trans l₂)) (hE.tr (l₁.trans l₂))
theorem aj5.bop {op:BoolOp}{es:List Expr}{pos:Pos}{m:M MV} (h:az2 S g d pos op es m):aj5 S g d (.BoolOp op es pos) m:=⟨fun cx A W st QM EM Q E hg hA R hm hQ hE=>h.run cx A W st QM EM Q E hg hA R hm hQ hE⟩
noncomputable abbrev ajw (S:ajA) (g:Sig) (d:Nat) (pos:Pos) (es:List Expr) (m:M (List MV)):Prop:=az7 S g d (VRs S.w.params S.C) (fun env=>spliced (backTo pos (starEach es env))) m
noncomputable def ajr (e:Expr):Bool:=!(e.ctorIdx == 22)
noncomputable def aJT:Expr→Nat×List Expr×List UInt8
 | .Tuple l _ _=>(1,l,[])
 | .List l _=>(2,l,[])
 | .Name _ _=>(3,[],[])
 | .Constant (.bytes b) _ _=>(4,[],b)
 | .Call f [] [] _=>(5,[f],[])
 | _=>(0,[],[])
noncomputable def bKy (e:Expr):Nat→Prop
 | 1=>∃ k p,e = .Tuple (aJT e).2.1 k p
 | 2=>∃ p,e = .List (aJT e).2.1 p
 | 4=>∃ k p,e = .Constant (.bytes (aJT e).2.2) k p
 | _=>True
theorem bz6 (e:Expr):bKy e (aJT e).1:=by
 cases e with
 | Tuple l k p=>exact ⟨k,p,rfl⟩
 | List l p=>exact ⟨p,rfl⟩
 | Constant c k p=>cases c<;>first | exact trivial | exact ⟨_,_,rfl⟩
 | Call f a k p=>cases a<;>cases k<;>trivial
 | _=>trivial
theorem ajT {e:Expr}{r:List Expr}{env:Env} (h:ajr e=true):starEach (e::r) env=(false,eval e env)::starEach r env:=by
 cases e<;>first | rfl | cases h
theorem ajw.nil {pos:Pos}:ajw S g d pos [] (ret []):=⟨fun cx A W st QM EM Q E hg hA R hm hQ hE=>wpAny_items_nil (hQ W st _ _ (Le.refl W) R (by rfl) hm)⟩
theorem ajw.cons {pos:Pos}{e:Expr}{r:List Expr}{me:M MV}{mr:M (List MV)} (he:aj5 S g d e me) (hr:ajw S g d pos r mr) (hs:ajr e=true) :
  ajw S g d pos (e::r) (bnd me fun a=>bnd mr fun as=>ret (a::as)):=by
 refine ⟨fun cx A W st QM EM Q E hg hA R hm hQ hE=>?_⟩
 refine wpAny_items_cons (he.then hg hA R hm (fun W₁ st₁ a u l₁ R₁ va hm₁=>?_) hE) (ajT hs)
 refine az7.then hr hg hA R₁ hm₁ (fun W₂ st₂ as us l₂ R₂ vas hm₂=>?_) (hE.tr l₁)
 exact hQ _ _ _ _ (l₁.trans l₂) R₂ (by exact ⟨u,us,rfl,VR.mono l₂ _ _ va,vas⟩) hm₂
theorem VRs.length {P:Params}{C:Addr}{W:Wd}:∀ {xs:List MV}{vs:List Value},VRs P C W xs vs→vs.length=xs.length
 | [],vs,h=>by rw [h];rfl
 | x::xs,vs,h=>by revert h;refine aQB fun v r e _ hr=>?_;rw [e,List.length_cons,List.length_cons,VRs.length hr]
end
end Mine
end
section
namespace Mine
open PySem PySem.W PyProof.Rows PySem.Calls
theorem aqm {h h' base:Heap} (k:∀ b o,h.get? b=some o→(∀ vs,o.data≠.fields vs)→∃ o',h'.get? b=some o'∧∀ vs,o'.data≠.fields vs) :
  ∀ {l:List Env},h.FunFrames base l→h'.FunFrames base l
 | [],_=>trivial
 | _::_,⟨hk,⟨L,o,hf,hn,ho,hd⟩,hr⟩=>let ⟨o',ho',hd'⟩:=k L o ho hd;⟨hk,⟨L,o',hf,hn,ho',hd'⟩,aqm k hr⟩
section
variable {S:ajA}{g:Sig}{d:Nat}
theorem bqd {h:Heap}{a:Addr}{m m':Str→Option Value} (x:h.Ns a m) (y:h.Ns a m'):m=m':=by
 revert x;refine aZa fun o es ep ho hd _ hm=>?_
 revert y;refine aZa fun o' es' ep' ho' hd' _ hm'=>?_
 rw [ho] at ho';cases ho'
 rw [hd] at hd';cases hd'
 funext z;rw [← hm,← hm']
theorem Rel.store {cx:Cx}{W:Wd}{st:MSt} (R:Rel S cx W st) {k:Nat}{x:Str}{mv:MV}{v:Value}{m:Str→Option Value}{h':Heap}{tk:Nat} (hx:cx.nm[k]? = some x)
  (hl:cx.env.kindOf x=some .local) (hv:VR S.w.params S.C W mv v) (hns0:W.s.heap.Ns cx.env.locals m)
  (hns:h'.Ns cx.env.locals (fun y=>if y=x then some v else m y)) (hs:Heap.SameBut cx.env.locals W.s.heap h') :
  Le W { W with s:={ W.s with heap:=h',toks:=tk } }∧Rel S cx { W with s:={ W.s with heap:=h',toks:=tk } } ⟨st.loc.set k mv,st.objs⟩:=by
 have hD:=R.cur.1
 have keep:∀ a o,W.s.heap.get? a=some o→¬ W.D a→h'.get? a=some o:=fun a o e hd=>(hs.2 a fun q=>hd (q ▸ hD)).trans e
 have l:Le W { W with s:={ W.s with heap:=h',toks:=tk } }:=⟨fun a o e hd=>⟨keep a o e hd,hd⟩,List.prefix_refl _⟩
 have there:∀ a,(∃ o,W.s.heap.get? a=some o)→∃ o,h'.get? a=some o:=fun a ⟨o,e⟩=>by
  by_cases q:a=cx.env.locals
  ·subst q;revert hns;refine aQA fun o' _ _ ho' _=>?_;exact ⟨o',ho'⟩
  ·exact ⟨o,(hs.2 a q).trans e⟩
 refine ⟨l,{ stat:=R.stat,envok:=R.envok,stays:=fun b o e=>keep b o (R.stays b o e) (R.fresh b o e),fresh:=R.fresh,dlt:=?_,cur:=?_,outs:=?_,apart:=R.apart,nmnd:=R.nmnd,len:=R.len,rin:=?_,live:=?_,inj:=R.inj,stk:=?_,stkD:=R.stkD,top:=R.top,topOK:=R.topOK,gens:=R.gens,os:=R.os,pins:=fun p hp=>let ⟨q1,q2,q3,q4,q5⟩:=R.pins p hp;⟨q1,(hs.2 _ q4).trans q2,q3,q4,q5⟩ }⟩
 ·exact fun a ha=>there a (R.dlt a ha)
 ·refine ak1 R.cur fun _ m' hm' hv'=>?_
  obtain rfl:=bqd hns0 hm'
  refine ⟨hD,_,hns,fun j mj hj hu=>?_⟩
  by_cases hjk:k=j
  ·subst hjk
   rw [List.getElem?_set] at hj
   simp only [if_true] at hj
   split at hj
   ·cases hj;exact ⟨x,v,hx,VR.mono l _ _ hv,.inl ⟨hl,by simp⟩⟩
   ·cases hj
  ·rw [List.getElem?_set_ne hjk] at hj
   refine ax0 (hv' j mj hj hu) fun y u hy hr hc=>?_
   refine ⟨y,u,hy,VR.mono l _ _ hr,hc.imp (fun ⟨q1,q2⟩=>⟨q1,?_⟩) fun ⟨q,c,o,h1,h2,h3,h4⟩=>⟨q,c,o,h1,h2,keep c o h3 h2,h4⟩⟩
   have hne:y≠x:=fun e=>by
    subst e
    exact hjk ((List.getElem?_inj (List.getElem?_eq_some_iff.mp hx).1 R.nmnd).mp (hx.trans hy.symm))
   rw [if_neg hne];exact q2
 ·intro r hr
  refine (R.outs r hr).step l (R.outs r hr).1 fun m' hm'=>?_
  exact hm'.sameBut hs (R.apart r hr)
 ·exact fun a ha=>there a (R.rin a ha)
 ·intro i mo h1 h2
  obtain ⟨a,h3,h4,h5,h6,h7,h8⟩:=R.live i mo h1 h2
  exact ⟨a,h3,h4,h5.step l fun o e=>(hs.2 a h6).trans e,h6,h7,h8⟩
 ·refine aqm (fun b o e hnf=>?_) R.stk
  by_cases q:b=cx.env.locals
  ·subst q
   revert hns;refine akS fun o' es' ep' ho' hd' _=>?_
   exact ⟨o',ho',fun vs q=>by rw [hd'] at q;cases q⟩
  ·exact ⟨o,(hs.2 b q).trans e,hnf⟩
theorem Rel.ns {cx:Cx}{W:Wd}{st:MSt} (R:Rel S cx W st):∃ m,W.s.heap.Ns cx.env.locals m:=let ⟨_,m,h,_⟩:=R.cur;⟨m,h⟩
theorem aZZ {cx:Cx}{A:Around}{W:Wd}{st:MSt}{E:Value→Shared→Prop}{Q:Unit→Shared→Prop}{QM:Unit→MSt→Prop}{EM:Value→MSt→Prop}{k:Nat}{x:Str}{mv:MV}{v:Value}
  (hg:g.fits cx) (R:Rel S cx W st) (hx:g.nm[k]? = some x) (hk:g.sc.names.lookup x=some .local) (hv:VR S.w.params S.C W mv v) (hm:ajD k mv st QM EM)
  (hQ:UOk S cx W QM Q):wpAny (model S.prog S.w) A (storeName cx.env x v) Q E W.s:=by
 obtain ⟨m,hns⟩:=R.ns
 have hkk:cx.env.kindOf x=some .local:=by unfold Env.kindOf;rw [hg.1];exact hk
 refine wpAny_storeName_local hkk hns (fun h' hn hs=>?_) (by rw [R.envok.kind];rfl)
 obtain ⟨l,R'⟩:=R.store (tk:=W.s.toks + 1) (by rw [hg.2.1];exact hx) hkk hv hns hn hs
 exact hQ _ _ l R' (bJF (bX9 hm)).2
theorem frN {P:Params}{C:Addr}{W:Wd}:FR P C W .next .next:=rfl
theorem frB {P:Params}{C:Addr}{W:Wd}:FR P C W .brk .brk:=rfl
theorem frC {P:Params}{C:Addr}{W:Wd}:FR P C W .cont .cont:=rfl
theorem frR {P:Params}{C:Addr}{W:Wd}{m:MV}{v:Value} (h:VR P C W m v):FR P C W (.ret m) (.ret v):=⟨v,rfl,h⟩
noncomputable def ajc (m:M MF) (r:M MF):M MF:=fun st Q E=>m st (fun f st'=>match f with | .next=>r st' Q E | f=>Q f st') E
theorem aj1.nil:aj1 S g d [] (ret .next):=⟨fun cx A W st QM EM Q E hg hA R hm hQ hE=>wpAny_execs_nil (hQ W st _ _ (Le.refl W) R frN hm)⟩
theorem aj1.cons {s:Stmt}{r:List Stmt}{ms mr:M MF} (hs:aj9 S g d s ms) (hr:aj1 S g d r mr):aj1 S g d (s::r) (ajc ms mr):=by
 refine ⟨fun cx A W st QM EM Q E hg hA R hm hQ hE=>?_⟩
 refine wpAny_execs_cons (az7.then hs hg hA R hm (fun W₁ st₁ f f' l₁ R₁ e hm₁=>?_) hE)
 cases f with
 | next=>cases e;exact az7.then hr hg hA R₁ hm₁ (hQ.tr l₁) (hE.tr l₁)
 | brk=>cases e;exact hQ _ _ _ _ l₁ R₁ frB hm₁
 | cont=>cases e;exact hQ _ _ _ _ l₁ R₁ frC hm₁
 | ret v=>revert e;refine azC fun u e1_ hu=>?_;subst e1_;exact hQ _ _ _ _ l₁ R₁ (frR hu) hm₁
theorem aj1.last {s:Stmt}{ms:M MF} (hs:aj9 S g d s ms):aj1 S g d [s] ms:=by
 refine ⟨fun cx A W st QM EM Q E hg hA R hm hQ hE=>?_⟩
 refine wpAny_execs_cons (az7.then hs hg hA R hm (fun W₁ st₁ f f' l₁ R₁ e hm₁=>?_) hE)
 cases f with
 | next=>cases e;exact wpAny_execs_nil (hQ _ _ _ _ l₁ R₁ frN hm₁)
 | brk=>cases e;exact hQ _ _ _ _ l₁ R₁ frB hm₁
 | cont=>cases e;exact hQ _ _ _ _ l₁ R₁ frC hm₁
 | ret v=>revert e;refine azC fun u e2_ hu=>?_;subst e2_;exact hQ _ _ _ _ l₁ R₁ (frR hu) hm₁
theorem aj9.brk {pos}:aj9 S g d (.Break pos) (ret .brk):=⟨fun cx A W st QM EM Q E hg hA R hm hQ hE=>wpAny_Break (hQ W st _ _ (Le.refl W) R frB hm)⟩
theorem aj9.ret0 {pos}:aj9 S g d (.Return none pos) (ret (.ret .none)):=⟨fun cx A W st QM EM Q E hg hA R hm hQ hE=>wpAny_Return_none (hQ W st _ _ (Le.refl W) R (frR aKW) hm)⟩
theorem aj9.ret1 {e:Expr}{pos}{m:M MV} (h:aj5 S g d e m):aj9 S g d (.Return (some e) pos) (bnd m fun v=>ret (.ret v)):=by
 refine ⟨fun cx A W st QM EM Q E hg hA R hm hQ hE=>?_⟩
 exact wpAny_Return_some (h.then hg hA R hm (fun W₁ st₁ a u l₁ R₁ va hm₁=>hQ _ _ _ _ l₁ R₁ (frR va) hm₁) hE)
theorem aj9.ife {t:Expr}{b o:List Stmt}{pos}{mt:M Bool}{mb mo:M MF} (ht:ajf S g d t mt) (hb:aj1 S g d b mb) (ho:aj1 S g d o mo):aj9 S g d (.If t b o pos) (ifM mt mb mo):=by
 refine ⟨fun cx A W st QM EM Q E hg hA R hm hQ hE=>?_⟩
 refine wpAny_If (az7.then ht hg hA R hm (fun W₁ st₁ c c' l₁ R₁ e hm₁=>?_) hE)
 subst e
 cases c with
 | true=>exact az7.then hb hg hA R₁ hm₁ (hQ.tr l₁) (hE.tr l₁)
 | false=>exact az7.then ho hg hA R₁ hm₁ (hQ.tr l₁) (hE.tr l₁)
theorem aj9.ann {x:Str}{p:Pos}{an:Expr}{simple:Int}{pos:Pos}:aj9 S g d (.AnnAssign (.Name x p) an none simple pos) (ret .next):=by
 refine ⟨fun cx A W st QM EM Q E hg hA R hm hQ hE=>?_⟩
 exact wpAny_AnnAssign_bare (hQ W st _ _ (Le.refl W) R frN hm) (hk:=R.envok.kind)
noncomputable def aJ4 (S:ajA) (g:Sig) (d:Nat) (t:Env→Value→Sem Unit) (m:MV→M Unit):Prop:=
 ∀ (cx:Cx) (A:Around) (W:Wd) (st:MSt) (QM:Unit→MSt→Prop) (EM:Value→MSt→Prop) (Q:Unit→Shared→Prop) (E:Value→Shared→Prop) (a:MV) (u:Value),
  g.fits cx→AOK cx d A→Rel S cx W st→VR S.w.params S.C W a u→m a st QM EM→
  (UOk S cx W QM Q)→
  (EOk S cx W EM E)→
  wpAny (model S.prog S.w) A (t cx.env u) Q E W.s
noncomputable def ajF (S:ajA) (g:Sig) (d:Nat) (t:Env→List Value→Sem Unit) (m:List MV→M Unit):Prop:=
 ∀ (cx:Cx) (A:Around) (W:Wd) (st:MSt) (QM:Unit→MSt→Prop) (EM:Value→MSt→Prop) (Q:Unit→Shared→Prop) (E:Value→Shared→Prop) (a:List MV) (u:List Value),
  g.fits cx→AOK cx d A→Rel S cx W st→VRs S.w.params S.C W a u→m a st QM EM→
  (UOk S cx W QM Q)→
  (EOk S cx W EM E)→
  wpAny (model S.prog S.w) A (t cx.env u) Q E W.s
theorem aJ4.bind (k:Nat) {x:Str} (hx:g.nm[k]? = some x) (hk:g.sc.names.lookup x=some .local):aJ4 S g d (fun env v=>bindName env x v) (ajD k):=by
 intro cx A W st QM EM Q E a u hg hA R va hm hQ hE
 exact wpAny_bindName (aZZ hg R hx hk va hm hQ)
theorem aJ4.name (k:Nat) {x:Str}{p:Pos} (hx:g.nm[k]? = some x) (hk:g.sc.names.lookup x=some .local):aJ4 S g d (fun env v=>assign (.Name x p) env v) (ajD k):=by
 intro cx A W st QM EM Q E a u hg hA R va hm hQ hE
 exact assign_Name (aZZ hg R hx hk va hm hQ)
noncomputable def aqj:List MV→M Unit
 | []=>ret ()
 | _=>azk
noncomputable def ajg (m:MV→M Unit) (r:List MV→M Unit):List MV→M Unit
 | x::xs=>bnd (m x) fun _=>r xs
 | []=>azk
theorem ajF.nil:ajF S g d (fun env vs=>assignInOrder [] vs) aqj:=by
 intro cx A W st QM EM Q E a u hg hA R va hm hQ hE
 cases a with
 | nil=>exact assignInOrder_nil (hQ W st (Le.refl W) R hm)
 | cons=>exact hm.elim
theorem ajF.cons {t:Env→Value→Sem Unit}{ts:Env→List (Value→Sem Unit)}{m:MV→M Unit}{ms:List MV→M Unit} (h:aJ4 S g d t m) (hs:ajF S g d (fun env vs=>assignInOrder (ts env) vs) ms) :
  ajF S g d (fun env vs=>assignInOrder (t env::ts env) vs) (ajg m ms):=by
 intro cx A W st QM EM Q E a u hg hA R va hm hQ hE
 cases a with
 | nil=>exact hm.elim
 | cons x xs=>
  revert va;refine aq2 fun v r e3_ r4_=>?_;subst e3_;obtain ⟨hv,hr⟩:=r4_
  refine assignInOrder_cons (h cx A W st _ EM _ E x v hg hA R hv hm (fun W₁ st₁ l₁ R₁ hm₁=>?_) hE)
  exact hs cx A W₁ st₁ QM EM Q E xs r hg hA R₁ (VRs.mono l₁ _ _ hr) hm₁ (hQ.tr l₁) (hE.tr l₁)
noncomputable def azm {α : Type} (m:List MV→M α):MV→M α
 | .tup xs=>m xs
 | _=>azk
theorem aQC {α : Type}{m:List MV→M α}{a:MV}{st:MSt}{QM : α→MSt→Prop}{EM:Value→MSt→Prop} (h:azm m a st QM EM):∃ xs,a = .tup xs∧m xs st QM EM:=by
 cases a<;>first | exact ⟨_,rfl,h⟩ | exact h.elim
theorem ax8 {h h':Heap} (x:Heap.ExtBut h.objs.size h h'):∀ b o,h.get? b=some o→h'.get? b=some o:=fun b o e=>x b o (Nat.ne_of_lt (Heap.lt_size e)) e
theorem aJ4.tup {es:List Expr}{k}{pos:Pos}{m:List MV→M Unit}{n:Nat} (h:ajF S g d (fun env vs=>assignInOrder ((assignEach es env).map (·.2)) vs) m)
  (hn:∀ env,(assignEach es env).length=n) (hst:∀ env,(assignEach es env).findIdx? (·.1)=none) :
  aJ4 S g d (fun env v=>assign (.Tuple es k pos) env v) (azm fun xs=>gE xs n (m xs)):=by
 intro cx A W st QM EM Q E a u hg hA R va hm hQ hE
 refine ajl (aQC hm) fun xs e5_ hm=>?_;subst e5_
 obtain ⟨hl,hm⟩:=bZr hm
 obtain ⟨t,vs,hd,ht,hvs⟩:=bzG va
 refine assign_Tuple_tuple hA.handled ht (by rw [hn,List.size_toArray,VRs.length hvs,hl]) (hst _) fun h' he=>?_
 obtain ⟨l,R'⟩:=R.keeps (s':={ W.s with heap:=h' }) (ax8 he) R.gens rfl
 exact h cx A _ st QM EM Q E xs vs hg hA R' (VRs.mono l _ _ hvs) hm (hQ.tr l) (hE.tr l)
noncomputable def aki (e:Expr):Bool:=!(Nat.ble 8 e.ctorIdx && Nat.ble e.ctorIdx 10)
theorem aqD {v:Expr}{t:Option Expr}{n:Nat}{env:Env} (h:aki v=true):swapsWith v t n env=pure false:=by
 cases v<;>first | rfl | cases h
theorem azZ {ts:List Expr}{v:Expr}{n:Nat}{env:Env} (h:aki v=true):swapsWithSole ts v n env=pure false:=by
 rcases ts with _ | ⟨t,_ | ⟨u,r⟩⟩
 ·rfl
 ·exact aqD h
 ·rfl
theorem aj9.assignN {x:Str}{p:Pos}{v:Expr}{pos:Pos}{m:M MV} (k:Nat) (h:aj5 S g d v m) (hx:g.nm[k]? = some x) (hk:g.sc.names.lookup x=some .local) (hc:aki v=true) :
  aj9 S g d (.Assign [.Name x p] v pos) (bnd m fun a=>bnd (ajD k a) fun _=>ret .next):=by
 refine ⟨fun cx A W st QM EM Q E hg hA R hm hQ hE=>?_⟩
 refine wpAny_Assign_Name (h.then hg hA R hm (fun W₁ st₁ a u l₁ R₁ va hm₁=>?_) hE) (aqD hc)
 exact aZZ hg R₁ hx hk va hm₁ fun W' st' l' R' hq=>hQ W' st' _ _ (l₁.trans l') R' frN hq
theorem aj9.assignTup {es:List Expr}{k}{tp:Pos}{v:Expr}{pos:Pos}{m:M MV}{mt:MV→M Unit} (h:aj5 S g d v m) (ht:aJ4 S g d (fun env v=>assign (Expr.Tuple es k tp) env v) mt) (hc:aki v=true)
  (hw:∀ env:Env,swappedStores [Expr.Tuple es k tp] v env=pure none):aj9 S g d (.Assign [.Tuple es k tp] v pos) (bnd m fun a=>bnd (mt a) fun _=>ret .next):=by
 refine ⟨fun cx A W st QM EM Q E hg hA R hm hQ hE=>?_⟩
 refine Assign_Tuple (h.then hg hA R hm (fun W₁ st₁ a u l₁ R₁ va hm₁=>?_) hE) (azZ hc) (hw _)
 exact ht cx A W₁ st₁ _ EM _ E a u hg hA R₁ va hm₁ (fun W' st' l' R' hq=>hQ W' st' _ _ (l₁.trans l') R' frN hq) (hE.tr l₁)
theorem VRs.reverse {P:Params}{C:Addr}{W:Wd}{xs:List MV}{vs:List Value} (h:VRs P C W xs vs):VRs P C W xs.reverse vs.reverse:=by
 have app:∀ {xs ys:List MV}{vs us:List Value},VRs P C W xs vs→VRs P C W ys us→VRs P C W (xs++ys) (vs++us):=by
  intro xs
  induction xs with
  | nil=>intro ys vs us h1 h2;subst h1;exact h2
  | cons x xs ih=>
   intro ys vs us h1 h2
   revert h1;refine aq2 fun v r e6_ r0_=>?_;subst e6_;obtain ⟨hv,hr⟩:=r0_
   show VRs P C W (x::(xs++ys)) (v::(r++us))
   exact ⟨v,_,rfl,hv,ih hr h2⟩
 induction xs generalizing vs with
 | nil=>subst h;rfl
 | cons x xs ih=>
  revert h;refine aq2 fun v r e1_ r2_=>?_;subst e1_;obtain ⟨hv,hr⟩:=r2_
  rw [List.reverse_cons,List.reverse_cons]
  refine app (ih hr) ?_
  exact ⟨v,[],rfl,hv,by rfl⟩
theorem aj9.assignSwap {es:List Expr}{k}{tp:Pos}{v:Expr}{pos:Pos}{m:M MV}{names:List Str}{mt:List MV→M Unit} (h:aj5 S g d v m)
  (ht:ajF S g d (fun env vs=>assignInOrder (names.reverse.map fun n=>bindName env n) vs) mt) (hc:aki v=true)
  (hw:∀ env:Env,env.scope=g.sc→swappedStores [Expr.Tuple es k tp] v env=pure (some names)) :
  aj9 S g d (.Assign [.Tuple es k tp] v pos) (bnd m (azm fun xs=>gE xs names.length (bnd (mt xs.reverse) fun _=>ret .next))):=by
 refine ⟨fun cx A W st QM EM Q E hg hA R hm hQ hE=>?_⟩
 refine Assign_Tuple_swapped (h.then hg hA R hm (fun W₁ st₁ a u l₁ R₁ va hm₁=>?_) hE) (azZ hc) (hw _ hg.1)
 refine ajl (aQC hm₁) fun xs e3_ hm₁=>?_;subst e3_
 obtain ⟨hl,hm₁⟩:=bZr hm₁
 obtain ⟨t,vs,hd,ht',hvs⟩:=bzG va
 have hsz:names.length=vs.toArray.size:=by rw [List.size_toArray,VRs.length hvs,hl]
 rw [hsz]
 refine unpackItems_tuple hA.handled ht' fun h' he=>?_
 obtain ⟨l,R'⟩:=R₁.keeps (s':={ W₁.s with heap:=h' }) (ax8 he) R₁.gens rfl
 exact ht cx A _ st₁ _ EM _ E xs.reverse vs.reverse hg hA R' (VRs.reverse (VRs.mono l _ _ hvs)) hm₁ (fun W' st' l' R'' hq=>hQ W' st' _ _ (l₁.trans (l.trans l')) R'' frN hq)
  (hE.tr (l₁.trans l))
theorem aj9.aug {x:Str}{p:Pos}{op:Operator}{v:Expr}{pos:Pos}{m:M MV}{mo:MV→MV→M MV} (k:Nat) (h:aj5 S g d v m) (ho:aj4 S d (inplaceOp op) mo) (hx:g.nm[k]? = some x)
  (hk:g.sc.names.lookup x=some .local) (hd:(x == ("__debug__" : Str))=false) :
  aj9 S g d (.AugAssign (.Name x p) op v pos) (bnd (getL k) fun a=>bnd m fun b=>bnd (mo a b) fun c=>bnd (ajD k c) fun _=>ret .next):=by
 refine ⟨fun cx A W st QM EM Q E hg hA R hm hQ hE=>?_⟩
 obtain ⟨hu,hm⟩:=bJF hm
 have hsome:st.loc[k]? = some (st.loc.getD k .unb):=by
  rw [List.getD_eq_getElem?_getD] at hu ⊢
  cases h:st.loc[k]? with
  | none=>rw [h] at hu;exact absurd rfl hu
  | some v=>rfl
 refine ajl (R.cur.get hsome hu (by rw [hg.2.1];exact hx)) fun old hv hc=>?_
 have hkk:cx.env.kindOf x=some .local:=by unfold Env.kindOf;rw [hg.1];exact hk
 rcases hc with ⟨mm,hns,_,hmx⟩ | ⟨hc,_⟩
 ·refine wpAny_AugAssign_Name (wpAny_loadName_local R.envok.kind hkk hns hmx ?_)
  refine h.then hg hA R hm (fun W₁ st₁ b u l₁ R₁ vb hm₁=>?_) hE
  refine ho cx A W₁ st₁ _ EM _ E _ b old u hA R₁ (VR.mono l₁ _ _ hv) vb hm₁ (fun W₂ st₂ c w l₂ R₂ vc hm₂=>?_) (hE.tr l₁)
  exact aZZ hg R₂ hx hk vc hm₂ fun W' st' l' R' hq=>hQ W' st' _ _ (l₁.trans (l₂.trans l')) R' frN hq
 ·rw [hkk] at hc;rcases hc with hc | hc<;>cases hc
noncomputable def azb (S:ajA) (d:Nat) (t:Value→Value→Value→Sem Unit) (m:MV→MV→MV→M Unit):Prop:=
 ∀ (cx:Cx) (A:Around) (W:Wd) (st:MSt) (QM:Unit→MSt→Prop) (EM:Value→MSt→Prop) (Q:Unit→Shared→Prop) (E:Value→Shared→Prop) (a b c:MV) (u v w:Value),
  AOK cx d A→Rel S cx W st→VR S.w.params S.C W a u→VR S.w.params S.C W b v→VR S.w.params S.C W c w→m a b c st QM EM→
  (UOk S cx W QM Q)→
  (EOk S cx W EM E)→
  wpAny (model S.prog S.w) A (t u v w) Q E W.s
theorem aj9.setItem {o i v:Expr}{p pos:Pos}{mo mi mv:M MV}{ms:MV→MV→MV→M Unit} (hv:aj5 S g d v mv) (ho:aj5 S g d o mo) (hi:aj5 S g d i mi) (hs:azb S d setItem ms) (hc:aki v=true) :
  aj9 S g d (.Assign [.Subscript o i p] v pos) (bnd mv fun c=>bnd mo fun a=>bnd mi fun b=>bnd (ms a b c) fun _=>ret .next):=by
 refine ⟨fun cx A W st QM EM Q E hg hA R hm hQ hE=>?_⟩
 refine wpAny_Assign_Subscript (hv.then hg hA R hm (fun W₁ st₁ c w l₁ R₁ vc hm₁=>?_) hE) (aqD hc)
 refine ho.then hg hA R₁ hm₁ (fun W₂ st₂ a u l₂ R₂ va hm₂=>?_) (hE.tr l₁)
 refine hi.then hg hA R₂ hm₂ (fun W₃ st₃ b v' l₃ R₃ vb hm₃=>?_) (hE.tr (l₁.trans l₂))
 exact hs cx A W₃ st₃ _ EM _ E a b c u v' w hA R₃ (VR.mono l₃ _ _ va) vb (VR.mono (l₂.trans l₃) _ _ vc) hm₃ (fun W' st' l' R' hq=>hQ W' st' _ _ (l₁.trans (l₂.trans (l₃.trans l'))) R' frN hq)
  (hE.tr (l₁.trans (l₂.trans l₃)))
theorem aj9.expr {e:Expr}{pos:Pos}{m:M MV} (h:aj5 S g d e m) (hc:aki e=true):aj9 S g d (.Expr e pos) (bnd m fun _=>ret .next):=by
 refine ⟨fun cx A W st QM EM Q E hg hA R hm hQ hE=>?_⟩
 have hi:interactive cx.env=false:=by unfold interactive;rw [R.envok.kind];rfl
 rw [exec_Expr cx.env e pos hi (aqD hc)]
 refine wpAny_bind (wpAny_standAt (wpAny_bind (h.then hg hA R hm (fun W₁ st₁ a u l₁ R₁ va hm₁=>?_) hE)))
 exact wpAny_dropValue (hQ _ _ _ _ l₁ R₁ frN hm₁)
end
end Mine
end
section
set_option genSizeOf false
set_option genInjectivity false
namespace Mine
open PySem PySem.W PyProof.Rows PySem.Calls
section
variable {S:ajA}{g:Sig}{d:Nat}
theorem Rel.land {cx:Cx}{W:Wd}{st:MSt}{s':Shared}{B:Heap}{J:Addr→Prop} (R:Rel S cx W st)
  (hB:BOk cx W J B)
  (hJ:JOk cx W J)
  (up:W.s.heap.UpToSlots s'.heap) (stays:B.StaysIn s'.heap) (hg:s'.gens=W.s.gens) (ho:s'.os=W.s.os) :
  Le W { W with s:=s' }∧Rel S cx { W with s:=s' } st:=by
 have keep:∀ a o,W.s.heap.get? a=some o→¬ W.D a→s'.heap.get? a=some o:=fun a o e hd=>
  stays a o (hB a o e (fun q=>hd (R.stkD a q)) fun q=>hd (hJ a q).2.1)
 have l:Le W { W with s:=s' }:=⟨fun a o e hd=>⟨keep a o e hd,hd⟩,List.prefix_refl _⟩
 have liv:∀ a o,W.s.heap.get? a=some o→a∈W.rho→a∉cx.stk.filterMap (·.frame)→s'.heap.get? a=some o:=fun a o e hr hf=>
  stays a o (hB a o e hf fun q=>(hJ a q).2.2.1 hr)
 refine ⟨l,{ stat:=R.stat,envok:=R.envok,stays:=fun b o e=>keep b o (R.stays b o e) (R.fresh b o e),fresh:=R.fresh,dlt:=?_,cur:=?_,outs:=?_,apart:=R.apart,nmnd:=R.nmnd,len:=R.len,rin:=?_,live:=?_,inj:=R.inj,stk:=?_,stkD:=R.stkD,top:=R.top,topOK:=R.topOK,gens:=hg ▸ R.gens,os:=ho.trans R.os,pins:=fun p hp=>let ⟨q1,q2,q3,q4,q5,q6⟩:=R.pins p hp;⟨q1,stays _ _ (hB _ _ q2 q6 fun z=>(hJ _ z).1 (List.mem_map_of_mem hp)),q3,q4,q5,q6⟩ }⟩
 ·intro a ha
  obtain ⟨o,e⟩:=R.dlt a ha
  by_cases q:a∈cx.stk.filterMap (·.frame)
  ·refine ak1 (R.stk.mem q) fun _ o' e' hnf=>?_
   obtain ⟨sl,h⟩:=up a o' e' hnf
   exact ⟨_,h⟩
  ·by_cases hj:J a
   ·refine akh (hJ a hj) fun _ _ _ _ _ r8_=>?_;revert r8_;refine azC fun o' e' hnf=>?_
    obtain ⟨sl,h⟩:=up a o' e' hnf
    exact ⟨_,h⟩
   ·exact ⟨o,stays a o (hB a o e q hj)⟩
 ·exact R.cur.step l R.cur.1 fun m hm=>up.ns hm
 ·exact fun r hr=>(R.outs r hr).step l (R.outs r hr).1 fun m hm=>up.ns hm
 ·intro a ha
  obtain ⟨o,e⟩:=R.rin a ha
  by_cases q:a∈cx.stk.filterMap (·.frame)
  ·refine ak1 (R.stk.mem q) fun _ o' e' hnf=>?_
   obtain ⟨sl,h⟩:=up a o' e' hnf
   exact ⟨_,h⟩
  ·exact ⟨o,liv a o e ha q⟩
 ·intro i mo h1 h2
  obtain ⟨a,h3,h4,h5,h6,h7,h8⟩:=R.live i mo h1 h2
  exact ⟨a,h3,h4,h5.step l fun o e=>liv a o e (List.mem_of_getElem? h3) h8,h6,h7,h8⟩
 ·refine aqm (fun b o e hnf=>?_) R.stk
  obtain ⟨sl,h⟩:=up b o e hnf
  exact ⟨_,h,hnf⟩
theorem aJG {env env':Env}{e:Value} (h:env.frame=env'.frame):noteFrame e env=noteFrame e env':=by
 unfold noteFrame PySem.frameOf
 rw [h]
theorem aXx {h:Heap}{as:List Addr}{a:Addr}{o:Obj} (e:h.get? a=some o) (n:a∉as):(hideAll h as).get? a=some o:=hideAll_get as e n
theorem bz2 {base h:Heap}{as:List Addr}:∀ {l:List Env},h.FunFrames base l→(∀ a∈l.filterMap (·.frame),a∈as)→h.FunFrames (hideAll h as) l
 | [],_,_=>trivial
 | env::_,⟨hk,⟨L,o,hf,_,ho,hd⟩,hr⟩,hin=>⟨hk,⟨L,o,hf,hideAll_none _ (hin L (by simp [hf])),ho,hd⟩,bz2 hr fun a ha=>hin a (by rw [List.filterMap_cons,hf];exact List.mem_cons_of_mem _ ha)⟩
inductive bZd (cx:Cx) (W:Wd) (e:Addr) (cls:Value) (s'':Shared):Prop
 | mk (B:Heap) (a0:Value) (L:Addr) (J:Addr→Prop) (hL:cx.env.frame=some L) (hB:BOk cx W J B) (hJ:JOk cx W J) (up:W.s.heap.UpToSlots s''.heap) (hH:Heap.HeldW B cx.stk e cls a0 L s''.heap) (hg:s''.gens=W.s.gens) (ho:s''.os=W.s.os):bZd cx W e cls s''
theorem avy {cx:Cx}{A:Around}{W:Wd}{st:MSt}{e:Addr}{cls:Value}{s':Shared}{Q:Unit→Shared→Prop}{E:Value→Shared→Prop} (hA:AOK cx d A) (R:Rel S cx W st) (F:Fly cx W e cls s')
  (hQ:∀ s'':Shared,bZd cx W e cls s''→Q () s'') :
  wpAny (model S.prog S.w) A (noteFrame (.ref e) cx.env) Q E s':=by
 refine azS R.top fun e0 r L hst hf0 hf=>?_
 rw [aJG (env':=e0) (hf.trans hf0.symm)]
 have hfr:A.frames=some (e0::r):=hst ▸ hA.frames
 cases F with
 | fresh ob a0 vs keeps new he hc hd h0 h1 hg ho=>
  have ff:s'.heap.FunFrames (hideAll W.s.heap (cx.stk.filterMap (·.frame))) (e0::r):=by
   rw [← hst]
   exact (bz2 R.stk fun a h=>h).of_keeps fun b o hb _=>⟨o,keeps b o hb,rfl⟩
  have hen:(hideAll W.s.heap (cx.stk.filterMap (·.frame))).get? e=none:=by
   cases q:(hideAll W.s.heap (cx.stk.filterMap (·.frame))).get? e with
   | none=>rfl
   | some o=>have:=of_hideAll _ q;rw [new] at this;cases this
  unfold noteFrame
  simp only [hf0]
  refine wpAny_bind (wpAny_field he hd h1 ?_)
  rw [if_neg (by decide)]
  refine wpAny_entryW hfr ff hf0 he (fun b o hb=>keeps b o (of_hideAll _ hb)) hen hd (Array.getElem?_eq_some_iff.mp h1).1 h0 fun h' hN=>?_
  revert hN;refine aZd fun k1 k2 k3 k4=>?_
  refine hQ _ ⟨_,a0,L,fun _=>False,hf,fun a o ho' hn _=>aXx ho' hn,fun a h=>h.elim,((Heap.UpToSlots.of_keeps keeps).trans k4),⟨k1,hen,by rw [← hst] at k2;exact k2,by rw [← hc];exact k3⟩,hg,ho⟩
 | traced B a0 fl J hB hJ up stays new ff tr hfl hg ho=>
  rcases hfl with rfl | ⟨L',hL',rfl⟩
  ·refine wpAny_looks_onW hfr hf0 (base:=B) (cls:=cls) (a0:=a0) ⟨stays,new,hst ▸ ff,tr⟩ fun h' hH up'=>?_
   exact hQ _ ⟨B,a0,L,J,hf,hB,hJ,up.trans up',by rw [hst];exact hH,hg,ho⟩
  ·obtain rfl:L'=L:=Option.some.inj (hL'.symm.trans hf)
   exact wpAny_noteFrame_againW hf0 tr (hQ _ ⟨B,a0,L',J,hf,hB,hJ,up,⟨stays,new,ff,tr⟩,hg,ho⟩)
theorem aqd {M:Model}{A:Around}{E:Value→Shared→Prop}{s:Shared}{base:Heap}{l:List Env}{e:Addr}{cls a0 fl:Value}{x:Option Addr}{Q:Unit→Shared→Prop} (hkb:base.StaysIn s.heap) (hen:base.get? e=none)
  (hl:s.heap.FunFrames base l) (ht:s.heap.TracedAtW base e cls a0 fl)
  (h:∀ h',base.StaysIn h'→h'.FunFrames base l→h'.TracedAtW base e cls a0 (x.elim .none fun f=>rawInt f)→s.heap.UpToSlots h'→Q () { s with heap:=h' }) :
  wpAny M A (setFlight (.ref e) x) Q E s:=by
 revert ht;refine az3 fun oe vs T oT ts r8_=>?_;revert r8_;refine akT fun he hcls hd h1 hnT r8_=>?_;revert r8_;refine aZd fun hTe hT hdT h3=>?_
 have sz:3 < ts.size:=(Array.getElem?_eq_some_iff.mp h3).1
 have oth:∀ b,b≠T→(s.heap.update T (Obj.mapFields (·.setIfInBounds 3 (x.elim Value.none fun f=>rawInt f)))).get? b=s.heap.get? b:=fun b hb=>Heap.get?_update_other _ _ (Ne.symm hb)
 have nr:∀ b o,s.heap.get? b=some o→(∀ vs,o.data≠.fields vs)→b≠T:=fun b o hb hnf q=>by
  subst q;rw [hT] at hb;cases hb;exact hnf ts hdT
 refine wpAny_bind (wpAny_field he hd h1 ?_)
 rw [if_pos (show (Value.ref T != Value.none)=true from by simp)]
 refine wpAny_setField hT hdT sz (h _ (fun b o hb=>(oth b fun q=>by subst q;rw [hnT] at hb;cases hb).trans (hkb b o hb)) (hl.of_keeps fun b o hb hnf=>⟨o,(oth b (nr b o hb hnf)).trans hb,rfl⟩) ?_
  fun b o hb hnf=>⟨o.slots,(oth b (nr b o hb hnf)).trans hb⟩)
 exact ⟨oe,vs,T,_,_,(oth e (Ne.symm hTe)).trans he,hcls,hd,h1,hnT,hTe,Heap.get?_update_self _ hT (Obj.isFreed_of_fields (Obj.data_mapFields hdT _)),Obj.data_mapFields hdT _,by simp [sz]⟩
theorem bqe {cx:Cx}{A:Around}{W:Wd}{st:MSt}{e:Addr}{cls:Value}{s':Shared}{E:Value→Shared→Prop} (hA:AOK cx d A) (R:Rel S cx W st) (F:Fly cx W e cls s')
  (hE:∀ s'',Fly cx W e cls s''→(∀ a0 vs ob,s''.heap.get? e=some ob→ob.data = .fields vs→vs[1]? = some a0→a0≠.none)→E (.ref e) s''):notedBy (model S.prog S.w) A cx.env E (.ref e) s':=by
 refine avy hA R F fun s'' hN=>?_
 obtain ⟨B,a0,L,J,hL,hB,hJ,up,hH,hg,ho⟩:=hN
 refine hE s'' ?_ ?_
 ·exact .traced B a0 (rawInt L) J hB hJ up hH.1 hH.2.1 hH.2.2.1 hH.2.2.2 (.inr ⟨L,hL,rfl⟩) hg ho
 ·intro x ws ob h1 h2 h3
  refine akZ hH.2.2.2 fun oe vs T oT ts r8_=>?_;revert r8_;refine bQ7 fun he hcls hd hv1 _=>?_
  rw [he] at h1;cases h1
  rw [hd] at h2;cases h2
  rw [hv1] at h3;cases h3
  intro q;cases q
theorem aKG {cx:Cx}{A:Around}{W:Wd}{st:MSt}{e:Addr}{cls:Value}{s':Shared}{E:Value→Shared→Prop} (R:Rel S cx W st) (F:Fly cx W e cls s')
  (hnn:∀ a0 vs ob,s'.heap.get? e=some ob→ob.data = .fields vs→vs[1]? = some a0→a0≠Value.none)
  (hE:∀ s'',Fly cx W e cls s''→E (.ref e) s''):cameBackBy (model S.prog S.w) A cx.env E (.ref e) s':=by
 refine azS R.top fun e0 r L hst hf0 hf=>?_
 cases F with
 | fresh ob a0 vs keeps new he hc hd h0 h1 hg ho=>exact absurd rfl (hnn _ _ _ he hd h1)
 | traced B a0 fl J hB hJ up stays new ff tr hfl hg ho=>
  have tr':=tr
  revert tr;refine az3 fun oe vs T oT ts r8_=>?_;revert r8_;refine akT fun he hcls hd h1 hnT r8_=>?_;revert r8_;refine aZd fun hTe hT hdT h3=>?_
  refine wpAny_bind (wpAny_field he hd h1 ?_)
  rw [if_neg (show ¬ ((Value.ref T == Value.none)=true) from by simp)]
  rw [hf]
  have fin:wpAny (model S.prog S.w) A (setFlight (.ref e) (some L)) (fun _ s''=>E (.ref e) s'') E s':=
   aqd stays new ff tr' fun h' k1 k2 k3 k4=>hE _ (.traced B a0 (rawInt L) J hB hJ (up.trans k4) k1 new k2 k3 (.inr ⟨L,hf,rfl⟩) hg ho)
  first
   | exact fin
   | exact wpAny_bind (wpAny_pure fin)
end
end Mine
end
section
namespace Mine
open PySem PySem.W PyProof.Rows PySem.Calls
noncomputable def MO.cl (n:Nat):MO→Prop
 | .list xs=>MV.cls n xs
 | .dict es=>MV.cld n es
 | _=>True
section
variable {S:ajA}{g:Sig}{d:Nat}
theorem MOR.cl {W:Wd}{mo:MO}{a:Addr} (h:MOR S W mo a):mo.cl W.rho.length:=by
 cases mo with
 | dead=>trivial
 | tab=>trivial
 | list xs=>revert h;refine aq2 fun vs c h1 h2=>?_;exact VRs.cl xs vs h2
 | dict es=>revert h;refine aq2 fun ds ep h1 h2=>?_;exact VRd.cl es ds h2
 | set xs=>trivial
noncomputable def akd (o o':List MO):Prop:=∀ (i:Nat) (mo:MO),i < o.length→o'[i]? = some mo→o[i]? = some mo∨mo.cl o.length
theorem Rel.back {cx cx':Cx}{W W'' W3:Wd}{st st'':MSt}{L:Addr} (R:Rel S cx W st) (R'':Rel S cx' W'' st'') (l:Le W W'')
  (ho:cx'.outer=⟨cx.env,cx.nm,st.loc⟩::cx.outer) (hs:cx'.stk=cx'.env::cx.stk) (hb:cx'.base=cx.base) (hos:cx'.os=cx.os) (hpi:cx'.pins=cx.pins) (hL:cx'.env.locals=L) (hf:cx'.env.frame=some L)
  (hn:W.s.heap.get? L=none) (kept:akd st.objs st''.objs) (h3s:W3.s=W''.s) (h3r:W3.rho=W.rho) (h3d:∀ b,W3.D b→W''.D b) (h3k:∀ b,W''.D b→b≠L→W3.D b) :
  Le W W3∧Rel S cx W3 ⟨st.loc,st''.objs.take st.objs.length⟩:=by
 have lW:Le W W3:=⟨fun a o e hd=>by
  obtain ⟨q1,q2⟩:=l.keep a o e hd
  exact ⟨by rw [h3s];exact q1,fun q=>q2 (h3d _ q)⟩,by rw [h3r];exact List.prefix_refl _⟩
 have hidx:∀ (i:Nat) (a:Addr),i < W.rho.length→W''.rho[i]? = some a→W3.rho[i]? = some a:=fun i a hi e=>by
  obtain ⟨t,ht⟩:=l.rho
  rw [← ht,List.getElem?_append_left hi] at e
  rw [h3r];exact e
 have shr:∀ a o,W''.s.heap.get? a=some o→¬ W''.D a→W3.s.heap.get? a=some o∧¬ W3.D a:=fun a o e hd=>⟨by rw [h3s];exact e,fun q=>hd (h3d _ q)⟩
 have vr:∀ (m:MV) (v:Value),m.cl W.rho.length→VR S.w.params S.C W'' m v→VR S.w.params S.C W3 m v:=fun m v c h=>VR.shrink shr hidx m v c h
 have ns:∀ (env:Env) (nm:List Str) (loc:List MV),NsR S W'' env nm loc→NsR S W env nm loc→env.locals≠L→NsR S W3 env nm loc:=fun env nm loc h h0 hne=>by
  revert h;refine aZc fun h1 m hm hv=>?_
  refine ⟨h3k _ h1 hne,m,by rw [h3s];exact hm,fun k mv hk hu=>?_⟩
  refine ax0 (hv k mv hk hu) fun x v hx hr hc=>?_
  revert h0;refine aZc fun _ m0 _ hv0=>?_
  refine ax0 (hv0 k mv hk hu) fun x0 v0 _ hr0 _=>?_
  exact ⟨x,v,hx,vr _ _ (VR.cl _ _ hr0) hr,hc.imp id fun ⟨q,c,o,q1,q2,q3,q4⟩=>⟨q,c,o,q1,fun z=>q2 (h3d _ z),by rw [h3s];exact q3,q4⟩⟩
 have hlen:W.rho.length≤st''.objs.length:=by rw [← R''.len];exact l.rho.length_le
 have hout:∀ r∈(⟨cx.env,cx.nm,st.loc⟩::cx.outer:List bjl),r.env.locals≠L:=fun r hr=>by
  have:=R''.apart r (by rw [ho];exact hr)
  rw [hL] at this;exact this
 refine ⟨lW,{ stat:=R.stat,envok:=R.envok,stays:=by rw [h3s,← hb];exact R''.stays,fresh:=fun a o e q=>R''.fresh a o (by rw [hb];exact e) (h3d _ q),dlt:=fun a q=>by rw [h3s];exact R''.dlt a (h3d _ q),cur:=?_,outs:=?_,apart:=R.apart,nmnd:=R.nmnd,len:=?_,rin:=?_,live:=?_,inj:=?_,stk:=?_,stkD:=?_,top:=R.top,topOK:=R.topOK,gens:=by rw [h3s];exact R''.gens,os:=by rw [h3s,R''.os,hos],pins:=?_ }⟩
 ·exact ns _ _ _ (R''.outs ⟨cx.env,cx.nm,st.loc⟩ (by rw [ho];exact .head _)) R.cur (hout _ (.head _))
 ·exact fun r hr=>ns _ _ _ (R''.outs r (by rw [ho];exact .tail _ hr)) (R.outs r hr) (hout _ (.tail _ hr))
 ·rw [h3r,List.length_take]
  have:=R.len
  show W.rho.length=_
  walk_at "O"
 ·intro a ha
  rw [h3s]
  exact R''.rin a (l.rho.subset (by rw [h3r] at ha;exact ha))
 ·intro i mo h1 h2
  have hi:i < st.objs.length:=by
   have:=(List.getElem?_eq_some_iff.mp h1).1
   simp only [List.length_take] at this
   walk_at "O"
  have h1':st''.objs[i]? = some mo:=by
   rw [List.getElem?_take] at h1
   simpa [hi] using h1
  obtain ⟨a,q1,q2,q3,q4,q5,q6⟩:=R''.live i mo h1' h2
  have hcl:mo.cl W.rho.length:=by
   rcases kept i mo hi h1' with hh | hh
   ·obtain ⟨a0,_,_,hm,_⟩:=R.live i mo hh h2
    exact MOR.cl hm
   ·rw [R.len];exact hh
  refine ⟨a,hidx i a (by rw [R.len];exact hi) q1,h3k _ q2 (by rw [← hL];exact q4),?_,q5 ⟨cx.env,cx.nm,st.loc⟩ (by rw [ho];exact .head _),fun r hr=>q5 r (by rw [ho];exact .tail _ hr),fun z=>q6 ?_⟩
  ·cases mo with
   | dead=>trivial
   | tab=>
    revert q3;refine aZc fun hD ps hi ht=>?_
    exact ⟨fun z=>hD (h3d _ z),ps,by rw [h3s];exact hi,by rw [h3s];exact ht⟩
   | list xs=>revert q3;refine aq2 fun vs c z1 z2=>?_;exact ⟨vs,c,by rw [h3s];exact z1,VRs.shrink shr hidx _ _ hcl z2⟩
   | dict es=>revert q3;refine aq2 fun ds ep z1 z2=>?_;exact ⟨ds,ep,by rw [h3s];exact z1,VRd.shrink shr hidx _ _ hcl z2⟩
   | set xs=>revert q3;refine azC fun o z1 z2=>?_;exact ⟨o,by rw [h3s];exact z1,z2⟩
  ·rw [hs,List.filterMap_cons,hf];exact .tail _ z
 ·intro i j a mo mo' h1 h2 h3 h4 h5 h6
  have get:∀ {i:Nat}{mo:MO},(st''.objs.take st.objs.length)[i]? = some mo→st''.objs[i]? = some mo∧i < st.objs.length:=fun {i mo} h=>by
   have hi:=(List.getElem?_eq_some_iff.mp h).1
   simp only [List.length_take] at hi
   have hi':i < st.objs.length:=by walk_at "O"
   rw [List.getElem?_take] at h
   exact ⟨by simpa [hi'] using h,hi'⟩
  have up:∀ {i:Nat}{a:Addr},W3.rho[i]? = some a→W''.rho[i]? = some a:=fun {i a} h=>by rw [h3r] at h;exact l.idx h
  exact R''.inj i j a mo mo' (get h1).1 h2 (get h3).1 h4 (up h5) (up h6)
 ·have z:=R''.stk
  rw [hs,hb] at z
  rw [h3s];exact z.2.2
 ·intro L' hL'
  refine h3k _ (R''.stkD L' (by rw [hs,List.filterMap_cons,hf];exact .tail _ hL')) fun q=>?_
  subst q
  refine ak1 (R.stk.mem hL') fun _ o e _=>?_
  rw [hn] at e;cases e
 ·intro p hp
  refine akh (R''.pins p (by rw [hpi];exact hp)) fun q1 q2 q3 q4 q5 q6=>?_
  refine akh (R.pins p hp) fun _ _ z3 z4 z5 z6=>?_
  exact ⟨h3k _ q1 (by rw [← hL];exact q4),by rw [h3s];exact q2,by rw [h3r];exact z3,z4,z5,z6⟩
noncomputable def MF.val:MF→MV
 | .ret v=>v
 | _=>.none
noncomputable def aQj (n:Nat) (body:M MF) (as:List MV):M MV:=fun st Q E=>
 body ⟨as++List.replicate (n - as.length) .unb,st.objs⟩
  (fun f st'=>f.val.cl st.objs.length∧akd st.objs st'.objs∧Q f.val ⟨st.loc,st'.objs.take st.objs.length⟩)
  (fun c st'=>akd st.objs st'.objs∧E c ⟨st.loc,st'.objs.take st.objs.length⟩)
noncomputable def aj2 (S:ajA) (d:Nat) (f:Value) (m:List MV→M MV):Prop:=
 ∀ (cx:Cx) (A:Around) (W:Wd) (st:MSt) (QM:MV→MSt→Prop) (EM:Value→MSt→Prop) (Q:Value→Shared→Prop) (E:Value→Shared→Prop) (as:List MV) (us:List Value),
  AOK cx d A→Rel S cx W st→VRs S.w.params S.C W as us→m as st QM EM→
  (QOk S cx (VR S.w.params S.C) W QM Q)→
  (EOk S cx W EM E)→
  wpAny (model S.prog S.w) A (call f us) Q E W.s
theorem VRs.app {P:Params}{C:Addr}{W:Wd}:∀ {xs ys:List MV}{vs us:List Value},VRs P C W xs vs→VRs P C W ys us→VRs P C W (xs++ys) (vs++us)
 | [],ys,vs,us,h1,h2=>by subst h1;exact h2
 | x::xs,ys,vs,us,h1,h2=>by
  revert h1;refine aq2 fun v r e4_ r5_=>?_;subst e4_;obtain ⟨hv,hr⟩:=r5_
  show VRs P C W (x::(xs++ys)) (v::(r++us))
  exact ⟨v,_,rfl,hv,VRs.app hr h2⟩
theorem VRs.get {P:Params}{C:Addr}{W:Wd}:∀ {xs:List MV}{vs:List Value}{k:Nat}{mv:MV},VRs P C W xs vs→xs[k]? = some mv→∃ v,vs[k]? = some v∧VR P C W mv v
 | [],vs,k,mv,h1,h2=>by simp at h2
 | x::xs,vs,0,mv,h1,h2=>by
  revert h1;refine aq2 fun v r e6_ r0_=>?_;subst e6_;obtain ⟨hv,hr⟩:=r0_
  cases h2;exact ⟨v,rfl,hv⟩
 | x::xs,vs,k + 1,mv,h1,h2=>by
  revert h1;refine aq2 fun v r e1_ r2_=>?_;subst e1_;obtain ⟨hv,hr⟩:=r2_
  exact VRs.get (k:=k) hr h2
theorem aXr (l:List (Str×Value)) (y x:Str) (v:Value):(l++[(y,v)]).lookup x=(l.lookup x).or (if x=y then some v else none):=by
 induction l with
 | nil=>
  by_cases h:x=y
  ·subst h;simp
  ·have hb:(x == y)=false:=beq_eq_false_iff_ne.mpr h
   simp [List.lookup_cons,hb,h]
 | cons p l ih=>
  rw [List.cons_append,List.lookup_cons,List.lookup_cons]
  cases h:x == p.1<;>simp [ih]
theorem aQe {l:List (Str×Value)}{x:Str} (h:x∉l.map (·.1)):l.lookup x=none:=by
 induction l with
 | nil=>rfl
 | cons p l ih=>
  rw [List.lookup_cons]
  simp only [List.map_cons,List.mem_cons,not_or] at h
  have:(x == p.1)=false:=beq_eq_false_iff_ne.mpr h.1
  rw [this];exact ih h.2
theorem aVY {ks:List Str}{vs:List Value} (hnd:ks.Nodup) {k:Nat}{x:Str}{v:Value} (h1:ks[k]? = some x) (h2:vs[k]? = some v):(ks.zip vs).reverse.lookup x=some v:=by
 induction ks generalizing vs k with
 | nil=>simp at h1
 | cons y ys ih=>
  cases vs with
  | nil=>simp at h2
  | cons u us=>
   rw [List.zip_cons_cons,List.reverse_cons,aXr]
   rw [List.nodup_cons] at hnd
   cases k with
   | zero=>
    simp only [List.getElem?_cons_zero,Option.some.injEq] at h1 h2
    subst h1;subst h2
    have:(ys.zip us).reverse.lookup y=none:=aQe fun q=>hnd.1 (by
     rw [List.map_reverse,List.mem_reverse] at q
     refine ajl (List.mem_map.mp q) fun p hp e=>?_
     have:=List.of_mem_zip (show (p.1,p.2)∈ys.zip us from hp)
     exact e ▸ this.1)
    rw [this];simp
   | succ k=>
    simp only [List.getElem?_cons_succ] at h1 h2
    rw [ih hnd.2 h1 h2];rfl
theorem bxC {cx cx':Cx}{A:Around}{W W'':Wd}{st st'':MSt}{L e:Addr}{cls:Value}{s':Shared}{Q:Unit→Shared→Prop}{E:Value→Shared→Prop} (hA:AOK cx' d A) (R:Rel S cx W st) (R'':Rel S cx' W'' st'') (l:Le W W'')
  (ho:cx'.outer=⟨cx.env,cx.nm,st.loc⟩::cx.outer) (hs:cx'.stk=cx'.env::cx.stk) (hL:cx'.env.locals=L) (hf:cx'.env.frame=some L) (hpi:cx'.pins=cx.pins)
  (hn:W.s.heap.get? L=none) (F:Fly cx' W'' e cls s')
  (hQ:∀ s3,Fly cx { W'' with rho:=W.rho } e cls s3→Q () s3):wpAny (model S.prog S.w) A (leaving cx'.env (.ref e)) Q E s':=by
 refine wpAny_bind (avy hA R'' F fun s3 hN=>?_)
 obtain ⟨B,a0,L',J,hL',hB,hJ,up,hH,hg,hos⟩:=hN
 refine aqd hH.1 hH.2.1 hH.2.2.1 hH.2.2.2 fun h' k1 k2 k3 k4=>hQ _ ?_
 have hin:∀ r∈(⟨cx.env,cx.nm,st.loc⟩::cx.outer:List bjl),r∈cx'.outer:=fun r hr=>by rw [ho];exact hr
 refine .traced B a0 .none (fun a=>J a∨a=L) (fun a o e1 e2 e3=>hB a o e1 (fun q=>?_) fun q=>e3 (.inl q)) (fun a h=>?_) (up.trans k4) k1 hH.2.1 ?_ k3 (.inl rfl) hg hos
 ·rw [hs,List.filterMap_cons,hf] at q
  rcases List.mem_cons.mp q with q | q
  ·exact e3 (.inr q)
  ·exact e2 q
 ·rcases h with h | h
  ·refine akh (hJ a h) fun j0 j1 j2 j3 j4 j5=>?_
   exact ⟨by rw [← hpi];exact j0,j1,fun q=>j2 (l.rho.subset q),j4 _ (hin _ (.head _)),fun r hr=>j4 r (hin r (.tail _ hr)),j5⟩
  ·subst h
   refine ⟨fun q=>?_,by rw [← hL];exact R''.cur.1,fun q=>?_,?_,fun r hr=>?_,?_⟩
   ·refine ajl (List.mem_map.mp q) fun p hp e=>?_
    refine bke (R.pins p hp) fun _ z _=>?_
    rw [e,hn] at z;cases z
   ·obtain ⟨o,q⟩:=R.rin _ q;rw [hn] at q;cases q
   ·have:=R''.apart _ (hin ⟨cx.env,cx.nm,st.loc⟩ (.head _));rw [hL] at this;exact Ne.symm this
   ·have:=R''.apart _ (hin r (.tail _ hr));rw [hL] at this;exact Ne.symm this
   ·refine ak1 R''.cur fun _ m q3_ _=>?_;obtain ⟨o,es,ep,e1,e2,_⟩:=q3_
    exact ⟨o,by rw [← hL];exact e1,fun vs q=>by rw [e2] at q;cases q⟩
 ·rw [hs] at k2;exact k2.2.2
theorem Rel.enter {cx:Cx}{W:Wd}{st:MSt} (R:Rel S cx W st) {env':Env}{nm:List Str}{locs:List MV}{s':Shared}{stk':List Env} (hE:bxa env') (hn:W.s.heap.get? env'.locals=none)
  (hk:∀ b o,W.s.heap.get? b=some o→s'.heap.get? b=some o) (hg:AllBare s'.gens) (hos:s'.os=W.s.os) (hnd:nm.Nodup) (hcur:NsR S ⟨s',W.rho,fun b=>W.D b∨b=env'.locals⟩ env' nm locs)
  (hs:∀ a,a∈stk'.filterMap (·.frame)→a=env'.locals∨a∈cx.stk.filterMap (·.frame)) (hff:s'.heap.FunFrames cx.base stk') (htop:∃ e0 r L,stk'=e0::r∧e0.frame=some L∧env'.frame=some L)
  (htopOK:∀ e0 r,stk'=e0::r→e0.scope.isGenerator=false∧e0.scope.isCoroutine=false∧e0.builtins=builtinsNs∧e0.globals=mainGlobals) :
  Rel S ⟨env',nm,⟨cx.env,cx.nm,st.loc⟩::cx.outer,stk',cx.base,cx.os,cx.pins⟩ ⟨s',W.rho,fun b=>W.D b∨b=env'.locals⟩ ⟨locs,st.objs⟩:=by
 have ltL:∀ {b o},W.s.heap.get? b=some o→b≠env'.locals:=fun e z=>by rw [z,hn] at e;cases e
 have l:Le W ⟨s',W.rho,fun b=>W.D b∨b=env'.locals⟩:=⟨fun b o e hd=>⟨hk b o e,fun q=>q.elim hd (ltL e)⟩,List.prefix_refl _⟩
 have all:∀ {b o},W.s.heap.get? b=some o→b≠cx.env.locals→(∀ r∈cx.outer,b≠r.env.locals)→∀ r∈(⟨cx.env,cx.nm,st.loc⟩::cx.outer:List bjl),b≠r.env.locals:=fun {b o} e q4 q5 r hr=>by
  rcases List.mem_cons.mp hr with rfl | hr
  ·exact q4
  ·exact q5 r hr
 refine { stat:=R.stat,envok:=hE,stays:=fun b o e=>hk b o (R.stays b o e),fresh:=fun b o e q=>q.elim (R.fresh b o e) (ltL (R.stays b o e)),dlt:=?_,cur:=hcur,outs:=?_,apart:=?_,nmnd:=hnd,len:=R.len,rin:=fun b hb=>let ⟨o,e⟩:=R.rin b hb;⟨o,hk b o e⟩,live:=?_,inj:=R.inj,stk:=hff,stkD:=fun a z=>(hs a z).elim .inr fun z=>.inl (R.stkD a z),top:=htop,topOK:=htopOK,gens:=hg,os:=hos.trans R.os,pins:=?_ }
 ·intro b hb
  rcases hb with hb | rfl
  ·obtain ⟨o,e⟩:=R.dlt b hb;exact ⟨o,hk b o e⟩
  ·revert hcur;refine aZc fun _ m q4_ _=>?_;obtain ⟨o,_,_,e,_⟩:=q4_;exact ⟨o,e⟩
 ·intro r hr
  rcases List.mem_cons.mp hr with rfl | hr
  ·exact R.cur.step l (.inl R.cur.1) fun m hm=>hm.keeps hk
  ·exact (R.outs r hr).step l (.inl (R.outs r hr).1) fun m hm=>hm.keeps hk
 ·intro r hr
  rcases List.mem_cons.mp hr with rfl | hr
  ·refine ak1 R.cur fun _ m q5_ _=>?_;obtain ⟨o,_,_,e,_⟩:=q5_;exact ltL e
  ·refine ak1 (R.outs r hr) fun _ m q6_ _=>?_;obtain ⟨o,_,_,e,_⟩:=q6_;exact ltL e
 ·intro i mo h1 h2
  obtain ⟨b,q1,q2,q3,q4,q5,q6⟩:=R.live i mo h1 h2
  obtain ⟨o,e⟩:=R.dlt b q2
  exact ⟨b,q1,.inl q2,q3.step l fun o e=>hk b o e,ltL e,all e q4 q5,fun z=>(hs b z).elim (ltL e) q6⟩
 ·intro p hp
  refine akh (R.pins p hp) fun q1 q2 q3 q4 q5 q6=>?_
  exact ⟨.inl q1,hk _ _ q2,q3,ltL q2,all q2 q4 q5,fun z=>(hs _ z).elim (ltL q2) q6⟩
theorem aj2.fn {a:Addr}{fd:FuncData}{oc:Value}{od:Option Addr}{osl:Array (Option Value)}{body:List Stmt}{g':Sig}{mb:M MF}{n:Nat}{dv:List MV}{dvs:List Value}
  (ho:S.K.lookup a=some ⟨oc,od,.func fd,osl⟩) (hcd:codeIn S.K fd.code fd.qualname=true) (hbody:fd.body = .stmts body)
  (hsc:fd.scope=g'.sc) (hk:fd.scope.kind = .function) (hco:fd.scope.isCoroutine=false) (hgen:fd.scope.isGenerator=false) (hcell:∀ x∈fd.scope.names,x.2≠.cell)
  (hcl:fd.closure=[]) (hglob:fd.globals=mainGlobals) (hbl:fd.builtins=builtinsNs) (hnd:g'.nm.Nodup) (hn:n + dv.length≤g'.nm.length)
  (hb:∀ (us:List Value),us.length=n→∀ s:Shared,S.K.In s.heap→BindsTo s fd ⟨us,[]⟩ ((g'.nm.take (n + dv.length)).zip (us++dvs)))
  (hdv:∀ W,VRs S.w.params S.C W dv dvs) (hloc:∀ x∈g'.nm.take (n + dv.length),fd.scope.names.lookup x=some .local)
  (hs:aj1 S g' d body mb) (hcode:∀ c,g'.code=some c→fd.code=c:=by intro c h;cases h):aj2 S (d + 1) (.ref a) (fun as=>gE as n (aQj g'.nm.length mb (as++dv))):=by
 intro cx A W st QM EM Q E as us hA R vas hm hQ hE
 obtain ⟨hlen,hm⟩:=bZr hm
 have hul:us.length=n:=(VRs.length vas).trans hlen
 have kin:S.K.In W.s.heap:=R.stat.kin.keeps R.stays
 have hdep:=hA.depth
 have hun:=hA.units
 refine wpAny_call (codeAny_call_def (fd:=fd) (body:=body) (binds:=(g'.nm.take (n + dv.length)).zip (us++dvs)) (by walk_at "O") (kin a _ ho) rfl (R.stat.nolimit.keeps R.stays) (codeRec_of kin hcd) hbody (hb us hul W.s kin) hcell
  (fun x hx=>?_) (fun h₀ hns hk₀=>?_) hco hgen hk)
 ·exact hloc _ (List.of_mem_zip (show (x.1,x.2)∈_ from hx)).1
 ·have hnew:W.s.heap.get? W.s.heap.objs.size=none:=Heap.get?_none_of_le (Nat.le_refl _)
  have ltL:∀ {b o},W.s.heap.get? b=some o→b≠W.s.heap.objs.size:=fun e=>Nat.ne_of_lt (Heap.lt_size e)
  have l:Le W ⟨{ W.s with heap:=h₀,toks:=W.s.toks + ((g'.nm.take (n + dv.length)).zip (us++dvs)).length },W.rho,fun b=>W.D b∨b=W.s.heap.objs.size⟩:=
   ⟨fun b o e hd=>⟨hk₀ b o e,fun q=>q.elim hd (ltL e)⟩,List.prefix_refl _⟩
  have vall:VRs S.w.params S.C W (as++dv) (us++dvs):=VRs.app vas (hdv W)
  have hal:(as++dv).length=n + dv.length:=by rw [List.length_append,hlen]
  have R':Rel S ⟨callEnv fd W.s.heap.objs.size a,g'.nm,⟨cx.env,cx.nm,st.loc⟩::cx.outer,callEnv fd W.s.heap.objs.size a::cx.stk,cx.base,cx.os,cx.pins⟩
    ⟨{ W.s with heap:=h₀,toks:=W.s.toks + ((g'.nm.take (n + dv.length)).zip (us++dvs)).length },W.rho,fun b=>W.D b∨b=W.s.heap.objs.size⟩
    ⟨(as++dv)++List.replicate (g'.nm.length - (as++dv).length) .unb,st.objs⟩:=by
   refine R.enter (env':=callEnv fd W.s.heap.objs.size a) (stk':=callEnv fd W.s.heap.objs.size a::cx.stk) ⟨hk,hglob,hbl⟩ hnew hk₀ R.gens rfl hnd ?_ (fun b z=>List.mem_cons.mp (show b∈W.s.heap.objs.size::cx.stk.filterMap (·.frame) from z)) ?_ ⟨_,_,W.s.heap.objs.size,rfl,rfl,rfl⟩ (fun e0 r e=>(by cases e;exact ⟨hgen,hco,hbl,hglob⟩))
   ·refine ⟨.inr rfl,_,hns,fun k mv hkk hu=>?_⟩
    have hklt:k < (as++dv).length:=by
     rcases Nat.lt_or_ge k (as++dv).length with h | h
     ·exact h
     ·rw [List.getElem?_append_right h,List.getElem?_replicate] at hkk
      split at hkk
      ·cases hkk;exact absurd rfl hu
      ·cases hkk
    rw [List.getElem?_append_left hklt] at hkk
    refine ajl (VRs.get vall hkk) fun v hv hr=>?_
    have hkn:k < (g'.nm.take (n + dv.length)).length:=by rw [List.length_take];walk_at "O"
    have hx:(g'.nm.take (n + dv.length))[k]? = some (g'.nm.take (n + dv.length))[k]:=List.getElem?_eq_getElem hkn
    refine ⟨_,v,?_,VR.mono l _ _ hr,.inl ⟨hloc _ (List.mem_of_getElem? hx),aVY (hnd.sublist (List.take_sublist _ _)) hx hv⟩⟩
    rw [← hx,List.getElem?_take]
    rw [if_pos (by walk_at "O")]
   ·refine ⟨fun z=>(by rw [show (callEnv fd W.s.heap.objs.size a).scope=fd.scope from rfl,hk] at z;cases z),?_,R.stk.of_keeps fun b o e _=>⟨o,hk₀ b o e,rfl⟩⟩
    revert hns;refine akS fun o es ep e1 e2 _=>?_
    refine ⟨_,o,rfl,?_,e1,fun vs q=>by rw [e2] at q;cases q⟩
    cases q:cx.base.get? W.s.heap.objs.size with
    | none=>rfl
    | some o=>exact absurd rfl (ltL (R.stays _ _ q))
  have hA':AOK ⟨callEnv fd W.s.heap.objs.size a,g'.nm,⟨cx.env,cx.nm,st.loc⟩::cx.outer,callEnv fd W.s.heap.objs.size a::cx.stk,cx.base,cx.os,cx.pins⟩ d (A.deeper (callEnv fd W.s.heap.objs.size a)):=
   ⟨by show A.frames.map _=_;rw [hA.frames];rfl,by show A.depth + 1 + 4 * d + 110 < _;walk_at "O",by show A.units + 3 + 16 * d + 16 < _;walk_at "O",hA.handled⟩
  refine hs.run _ (A.deeper (callEnv fd W.s.heap.objs.size a)) _ _ _ _ _ _ ⟨hsc,rfl,hcode⟩ hA' R' hm (fun W'' st'' f f' l'' R'' hf hq=>?_) fun W'' st'' e c s'' l'' R'' F hq=>?_
  ·revert hq;refine bzF fun q1 q2 q3=>?_
   obtain ⟨lb,Rb⟩:=Rel.back (W3:=⟨W''.s,W.rho,fun b=>W''.D b∧b≠W.s.heap.objs.size⟩) R R'' (l.trans l'') rfl rfl rfl rfl rfl rfl rfl hnew q2 rfl rfl (fun b h=>h.1) fun b h1 h2=>⟨h1,h2⟩
   have vb:∀ v,VR S.w.params S.C W'' f.val v→VR S.w.params S.C ⟨W''.s,W.rho,fun b=>W''.D b∧b≠W.s.heap.objs.size⟩ f.val v:=fun v hv=>
    VR.shrink (W:=W'') (W':=⟨W''.s,W.rho,fun b=>W''.D b∧b≠W.s.heap.objs.size⟩) (n:=st.objs.length) (fun b o e hd=>⟨e,fun z=>hd z.1⟩) (fun i b hi e=>by
     obtain ⟨t,ht⟩:=(l.trans l'').rho
     rw [← ht,List.getElem?_append_left (by rw [R.len];exact hi)] at e
     exact e) _ _ q1 hv
   cases f with
   | next=>cases hf;exact hQ ⟨W''.s,W.rho,fun b=>W''.D b∧b≠W.s.heap.objs.size⟩ _ _ _ lb Rb (by exact rfl) q3
   | brk=>cases hf;exact hQ ⟨W''.s,W.rho,fun b=>W''.D b∧b≠W.s.heap.objs.size⟩ _ _ _ lb Rb (by exact rfl) q3
   | cont=>cases hf;exact hQ ⟨W''.s,W.rho,fun b=>W''.D b∧b≠W.s.heap.objs.size⟩ _ _ _ lb Rb (by exact rfl) q3
   | ret v=>revert hf;refine azC fun u e0_ hu=>?_;subst e0_;exact hQ ⟨W''.s,W.rho,fun b=>W''.D b∧b≠W.s.heap.objs.size⟩ _ _ _ lb Rb (vb _ hu) q3
  ·obtain ⟨q2,q3⟩:=hq
   obtain ⟨lb,Rb⟩:=Rel.back (W3:=⟨W''.s,W.rho,W''.D⟩) R R'' (l.trans l'') rfl rfl rfl rfl rfl rfl rfl hnew q2 rfl rfl (fun b h=>h) fun b h1 h2=>h1
   exact bxC hA' R R'' (l.trans l'') rfl rfl rfl rfl rfl hnew F fun s3 F3=>hE ⟨W''.s,W.rho,W''.D⟩ _ e c s3 lb Rb F3 q3
end
end Mine
end
section
namespace Mine
open PySem PySem.W PyProof.Rows PySem.Calls
section
variable {S:ajA}{g:Sig}{d:Nat}
theorem AOK.le {cx:Cx}{A:Around}{d':Nat} (h:AOK cx d A) (l:d'≤d):AOK cx d' A:=⟨h.frames,by have:=h.depth;walk_at "O",by have:=h.units;walk_at "O",h.handled⟩
theorem aj2.le {f:Value}{m:List MV→M MV}{d':Nat} (h:aj2 S d' f m) (l:d'≤d):aj2 S d f m:=
 fun cx A W st QM EM Q E as us hA=>h cx A W st QM EM Q E as us (hA.le l)
theorem aj4.le {t:Value→Value→Sem Value}{m:MV→MV→M MV}{d':Nat} (h:aj4 S d' t m) (l:d'≤d):aj4 S d t m:=
 fun cx A W st QM EM Q E a b u v hA=>h cx A W st QM EM Q E a b u v (hA.le l)
theorem aqk {es:List Expr}{pos:Pos}{env:Env} (h:es.all ajr=true):(backTo pos (starEach es env)).any (·.1)=false:=by
 induction es with
 | nil=>rfl
 | cons e r ih=>
  rw [List.all_cons,Bool.and_eq_true] at h
  rw [ajT h.1]
  show (false || (backTo pos (starEach r env)).any (·.1))=false
  rw [ih h.2];rfl
theorem aK8 {es:List Expr}{pos:Pos}{env:Env} (h:es.all ajr=true):(backTo pos (starEach es env)).all (fun x=>!x.1)=true:=by
 induction es with
 | nil=>rfl
 | cons e r ih=>
  rw [List.all_cons,Bool.and_eq_true] at h
  rw [ajT h.1]
  show (true && (backTo pos (starEach r env)).all (fun x=>!x.1))=true
  rw [ih h.2];rfl
theorem aq9 {M:Model}{A:Around}{E:Value→Shared→Prop}{s:Shared}{f:Value}{es:List Expr}{pos:Pos}{env:Env}{Q:Args→Shared→Prop} (h:es.all ajr=true)
  (hh:wpAny M A (spliced (backTo pos (starEach es env))) (fun vs s'=>Q ⟨vs,[]⟩ s') E s):wpAny M A (evalArgs f true (backTo pos (starEach es env)) []) Q E s:=by
 cases es with
 | nil=>
  show wpAny M A (spliced (backTo pos (starEach [] env))>>=_) Q E s
  refine wpAny_bind (wpAny_mono hh (fun vs s' h'=>?_) fun _ _ x=>x)
  refine wpAny_bind (wpAny_pure ?_)
  refine wpAny_holding ?_
  exact wpAny_bind (wpAny_pure (wpAny_bind (wpAny_pure (wpAny_pure h'))))
 | cons e r=>
  rw [List.all_cons,Bool.and_eq_true] at h
  rw [ajT h.1] at hh ⊢
  exact evalArgs_plain hh
noncomputable def avo (S:ajA) (f:Value):Prop:=(∃ id,f = .builtin id)∨(∃ T,f = .type T)∨(∃ a o fd,f = .ref a∧S.K.lookup a=some o∧o.data = .func fd)
theorem aKH {f:Value}{es:List Expr}{pos cpos:Pos}{ma:M (List MV)}{mc:List MV→M MV}{fm:List MV}{first:List Value} (hk:avo S f) (hs:es.all ajr=true) (ha:ajw S g d pos es ma) (hc:aj2 S d f mc)
  {cx:Cx}{A:Around}{W:Wd}{st:MSt}{QM:MV→MSt→Prop}{EM:Value→MSt→Prop}{Q:Value→Shared→Prop}{E:Value→Shared→Prop} (hg:g.fits cx) (hA:AOK cx d A) (R:Rel S cx W st)
  (hf:VRs S.w.params S.C W fm first) (hm:bnd ma (fun as=>mc (fm++as)) st QM EM)
  (hQ:QOk S cx (VR S.w.params S.C) W QM Q)
  (hE:EOk S cx W EM E) :
  wpAny (model S.prog S.w) A (callWith cpos f first (backTo pos (starEach es cx.env)) []) Q E W.s:=by
 have main:∀ (P:Shared→Prop),(∀ W',Le W W'→(∃ st',Rel S cx W' st')→P W'.s)→
   wpAny (model S.prog S.w) A (spliced (backTo pos (starEach es cx.env))) (fun vs s₁=>P s₁∧wpAny (model S.prog S.w) A (call f (first++vs)) Q E s₁) E W.s:=fun P hP=>
  az7.then ha hg hA R hm (fun W₁ st₁ as us l₁ R₁ vas hm₁=>⟨hP W₁ l₁ ⟨st₁,R₁⟩,hc cx A W₁ st₁ QM EM Q E (fm++as) (first++us) hA R₁ (VRs.app (VRs.mono l₁ _ _ hf) vas) hm₁
   (hQ.tr l₁) (hE.tr l₁)⟩) hE
 rcases hk with ⟨id,rfl⟩ | ⟨T,rfl⟩ | ⟨a,o,fd,rfl,ho,hd⟩
 ·exact callWith_builtin (aqk hs) (aq9 hs (wpAny_mono (main (fun _=>True) fun _ _ _=>trivial) (fun vs s' h=>h.2) fun _ _ x=>x))
 ·exact PyProof.Rows.callWith_type (aqk hs) (aq9 hs (wpAny_mono (main (fun _=>True) fun _ _ _=>trivial) (fun vs s' h=>h.2) fun _ _ x=>x))
 ·exact callWith_function (o:=o) (fd:=fd) (aq9 hs (wpAny_mono (main (fun s'=>s'.heap.get? a=some o) fun W' l ⟨st',R'⟩=>(R'.stat.kin.keeps R'.stays) a o ho) (fun vs s' h=>⟨⟨h.1,hd⟩,h.2⟩) fun _ _ x=>x))
theorem aj5.call {x:Str}{np pos:Pos}{es:List Expr}{f:Value}{fv:MV}{ma:M (List MV)}{mc:List MV→M MV} (hn:aj5 S g d (.Name x np) (ret fv)) (hfv:∀ W v,VR S.w.params S.C W fv v→v=f)
  (hk:avo S f) (hs:es.all ajr=true) (ha:ajw S g d pos es ma) (hc:aj2 S d f mc):aj5 S g d (.Call (.Name x np) es [] pos) (bnd ma mc):=by
 refine ⟨fun cx A W st QM EM Q E hg hA R hm hQ hE=>?_⟩
 refine wpAny_Call_ofName (hn.then hg hA R (QM:=fun a st'=>a=fv∧bnd ma mc st' QM EM) (EM:=EM) ⟨rfl,hm⟩ (fun W₁ st₁ a u l₁ R₁ va hm₁=>?_) hE)
 obtain ⟨rfl,hm₁⟩:=hm₁
 rw [hfv _ _ va]
 exact aKH (fm:=[]) (first:=[]) hk hs ha hc hg hA R₁ (by rfl) hm₁ (hQ.tr l₁) (hE.tr l₁)
noncomputable def ajH (S:ajA) (d:Nat) (name:Str) (knd:MV→MSt→Prop→Prop) (f:Value):Prop:=
 ∀ (cx:Cx) (A:Around) (W:Wd) (st:MSt) (a:MV) (v:Value) (pl:Sem Bool) (Q:Value×List Value→Shared→Prop) (E:Value→Shared→Prop) (p:Prop),AOK cx d A→Rel S cx W st→VR S.w.params S.C W a v→knd a st p→
  p∧(Q (f,[v]) W.s→wpAny (model S.prog S.w) A (getMethod v name pl) Q E W.s)
noncomputable def av3 (e:Expr):Bool:=!((aJT e).1 == 5 && (aJT ((aJT e).2.1.headD e)).1 == 3)
theorem aqV {o:Expr}{attr:Str}{env:Env}{whole:Sem Value} (h:av3 o=true):attributeBase o attr env whole=whole:=by
 cases o<;>first | rfl | skip
 rename_i f args kws pos
 cases f<;>first | rfl | skip
 cases args with
 | cons=>rfl
 | nil=>cases kws with
  | cons=>rfl
  | nil=>cases h
theorem aj5.meth {o:Expr}{name:Str}{apos pos:Pos}{es:List Expr}{f:Value}{mo:M MV}{knd:MV→MSt→Prop→Prop}{ma:M (List MV)}{mc:List MV→M MV} (ho:aj5 S g d o mo) (hf:ajH S d name knd f) (hk:avo S f)
  (hs:es.all ajr=true) (ha:ajw S g d pos es ma) (hc:aj2 S d f mc) (hb:av3 o=true) (hl:(apos.endLine == pos.line)=true) (hfew:es.length < 30) :
  aj5 S g d (.Call (.Attribute o name apos) es [] pos) (bnd mo fun a st Q E=>knd a st (bnd ma (fun as=>mc (a::as)) st Q E)):=by
 refine ⟨fun cx A W st QM EM Q E hg hA R hm hQ hE=>?_⟩
 rw [arm_eval_Call,aqV hb]
 refine wpAny_bind (ho.then hg hA R hm (fun W₁ st₁ a u l₁ R₁ va hm₁=>wpAny_bind (wpAny_standAt ?_)) hE)
 have hform:methodCallForm (es.length + ([]:List Keyword).length) (backTo pos (starEach es cx.env)) (backToKw pos (keywordEach [] cx.env))=true:=by
  unfold methodCallForm
  rw [aK8 hs]
  have hk:backToKw pos (keywordEach [] cx.env)=[]:=rfl
  rw [hk]
  simp [hfew]
 have hpos:methodCallPos true o cx.env apos pos=pure pos:=by unfold methodCallPos;simp [hl]
 unfold methodCall
 rw [hform]
 refine wpAny_bind (wpAny_holding ?_)
 show wpAny _ A (getMethod u name _) _ _ W₁.s
 refine (hf cx A W₁ st₁ a u _ _ _ _ hA R₁ va hm₁).2 ?_
 refine wpAny_bind (wpAny_of_eq hpos ?_)
 exact aKH (fm:=[a]) (first:=[u]) hk hs ha hc hg hA R₁ (by exact ⟨u,[],rfl,va,by rfl⟩) (hf cx A W₁ st₁ a u (pure true) (fun _ _=>True) (fun _ _=>True) _ hA R₁ va hm₁).1 (hQ.tr l₁) (hE.tr l₁)
theorem aj5.tupD {es:List Expr}{k:Nat}{pos:Pos}{m:M (List MV)} (h:ajw S g d pos es m) (hn:es.length≤sizeLine):aj5 S g d (.Tuple es k pos) (bnd m fun xs=>gN xs (ret (.tup xs))):=by
 refine ⟨fun cx A W st QM EM Q E hg hA R hm hQ hE=>?_⟩
 refine wpAny_Tuple (az7.then h hg hA R hm (fun W₁ st₁ as us l₁ R₁ vas hm₁=>?_) hE)
 obtain ⟨hlen,hm₁⟩:=bZq hm₁
 refine ⟨by rw [VRs.length vas];exact Nat.le_trans hlen (by rw [sizeLine_eq];walk_at "O"),?_⟩
 obtain ⟨l,R'⟩:=R₁.keeps (s':={ W₁.s with heap:=W₁.s.heap.push { cls:=.type "tuple",data:=.seq us.toArray } }) (fun b o e=>Heap.get?_push_of_some _ e) R₁.gens rfl
 refine hQ _ _ _ _ (l₁.trans l) R' ?_ hm₁
 exact bZC ⟨_,us,fun q=>by obtain ⟨o,e⟩:=R₁.dlt _ q;exact absurd (Heap.lt_size e) (Nat.lt_irrefl _),⟨_,Heap.get?_push_size _ rfl,rfl,0,rfl⟩,VRs.mono l _ _ vas⟩
theorem aj5.listD {es:List Expr}{pos:Pos}{m:M (List MV)} (h:ajw S g d pos es m) (hn:es.length≤sizeLine):aj5 S g d (.List es pos) (bnd m fun xs=>gN xs (ret (.list xs))):=by
 refine ⟨fun cx A W st QM EM Q E hg hA R hm hQ hE=>?_⟩
 refine wpAny_List (az7.then h hg hA R hm (fun W₁ st₁ as us l₁ R₁ vas hm₁=>?_) hE)
 obtain ⟨hlen,hm₁⟩:=bZq hm₁
 refine ⟨by rw [VRs.length vas];exact Nat.le_trans hlen (by rw [sizeLine_eq];walk_at "O"),?_⟩
 obtain ⟨l,R'⟩:=R₁.keeps (s':={ W₁.s with heap:=W₁.s.heap.push { cls:=.type "list",data:=.seq us.toArray } }) (fun b o e=>Heap.get?_push_of_some _ e) R₁.gens rfl
 refine hQ _ _ _ _ (l₁.trans l) R' ?_ hm₁
 exact aZX ⟨_,us,fun q=>by obtain ⟨o,e⟩:=R₁.dlt _ q;exact absurd (Heap.lt_size e) (Nat.lt_irrefl _),⟨_,Heap.get?_push_size _ rfl,rfl,0,rfl⟩,VRs.mono l _ _ vas⟩
theorem Rel.sysNe {cx:Cx}{W:Wd}{st:MSt} (R:Rel S cx W st) {a:Addr} (h:cx.base.get? a=none):(a == sysModules)=false:=by
 refine beq_eq_false_iff_ne.mpr fun e=>?_
 subst e
 have:=R.stat.sys
 rw [h] at this;cases this
theorem Rel.baseNew {cx:Cx}{W:Wd}{st:MSt} (R:Rel S cx W st) {a:Addr} (h:W.s.heap.get? a=none):cx.base.get? a=none:=by
 cases q:cx.base.get? a with
 | none=>rfl
 | some o=>have:=R.stays _ _ q;rw [h] at this;cases this
theorem ajt (h:Heap):h.get? h.objs.size=none:=Heap.get?_none_of_le (Nat.le_refl _)
theorem aj5.dictD {pos:Pos}:aj5 S g d (.Dict [] [] pos) (ret (.dict [])):=by
 refine ⟨fun cx A W st QM EM Q E hg hA R hm hQ hE=>?_⟩
 refine wpAny_Dict_empty ?_
 obtain ⟨l,R'⟩:=R.keeps (s':={ W.s with heap:=W.s.heap.push { cls:=.type "dict",data:=.dict #[] } }) (fun b o e=>Heap.get?_push_of_some _ e) R.gens rfl
 refine hQ _ _ _ _ l R' ?_ hm
 exact bJS ⟨_,_,[],0,fun q=>by obtain ⟨o,e⟩:=R.dlt _ q;exact absurd (Heap.lt_size e) (Nat.lt_irrefl _),R.sysNe (R.baseNew (ajt _)),Heap.get?_push_size _ rfl,⟨rfl,rfl,rfl⟩,rfl,by rfl⟩
theorem Rel.fresh_obj {cx:Cx}{W:Wd}{st:MSt}{o:Obj}{mo:MO} (R:Rel S cx W st) (hf:o.isFreed=false)
  (hm:∀ W':Wd,Le W W'→W'.s.heap.get? W.s.heap.objs.size=some o→MOR S W' mo W.s.heap.objs.size) :
  Le W ⟨{ W.s with heap:=W.s.heap.push o },W.rho++[W.s.heap.objs.size],fun b=>W.D b∨b=W.s.heap.objs.size⟩∧
  Rel S cx ⟨{ W.s with heap:=W.s.heap.push o },W.rho++[W.s.heap.objs.size],fun b=>W.D b∨b=W.s.heap.objs.size⟩ ⟨st.loc,st.objs++[mo]⟩:=by
 have hk:∀ b o',W.s.heap.get? b=some o'→(W.s.heap.push o).get? b=some o':=fun b o' e=>Heap.get?_push_of_some _ e
 have ltL:∀ {b o'},W.s.heap.get? b=some o'→b≠W.s.heap.objs.size:=fun e=>Nat.ne_of_lt (Heap.lt_size e)
 have l:Le W ⟨{ W.s with heap:=W.s.heap.push o },W.rho++[W.s.heap.objs.size],fun b=>W.D b∨b=W.s.heap.objs.size⟩:=
  ⟨fun b o' e hd=>⟨hk b o' e,fun q=>q.elim hd (ltL e)⟩,List.prefix_append _ _⟩
 have hself:(W.s.heap.push o).get? W.s.heap.objs.size=some o:=Heap.get?_push_size _ hf
 refine ⟨l,{ stat:=R.stat,envok:=R.envok,stays:=fun b o' e=>hk b o' (R.stays b o' e),fresh:=fun b o' e q=>q.elim (R.fresh b o' e) (ltL (R.stays b o' e)),dlt:=?_,cur:=R.cur.step l (.inl R.cur.1) fun m hm=>hm.keeps hk,outs:=fun r hr=>(R.outs r hr).step l (.inl (R.outs r hr).1) fun m hm=>hm.keeps hk,apart:=R.apart,nmnd:=R.nmnd,len:=?_,rin:=?_,live:=?_,inj:=?_,stk:=R.stk.of_keeps fun b o' e _=>⟨o',hk b o' e,rfl⟩,stkD:=fun L hL=>.inl (R.stkD L hL),top:=R.top,topOK:=R.topOK,gens:=R.gens,os:=R.os,pins:=?_ }⟩
 ·intro b hb
  rcases hb with hb | rfl
  ·obtain ⟨o',e⟩:=R.dlt b hb;exact ⟨o',hk b o' e⟩
  ·exact ⟨o,hself⟩
 ·simp [R.len]
 ·intro b hb
  rcases List.mem_append.mp hb with hb | hb
  ·obtain ⟨o',e⟩:=R.rin b hb;exact ⟨o',hk b o' e⟩
  ·rw [List.mem_singleton.mp hb];exact ⟨o,hself⟩
 ·intro i mo' h1 h2
  rcases Nat.lt_or_ge i st.objs.length with hi | hi
  ·rw [List.getElem?_append_left hi] at h1
   obtain ⟨a,q1,q2,q3,q4,q5,q6⟩:=R.live i mo' h1 h2
   exact ⟨a,l.idx q1,.inl q2,q3.step l fun o' e=>hk a o' e,q4,q5,q6⟩
  ·rw [List.getElem?_append_right hi] at h1
   have hi':i - st.objs.length=0:=by
    have:=(List.getElem?_eq_some_iff.mp h1).1
    simp at this;walk_at "O"
   rw [hi'] at h1
   obtain rfl:mo=mo':=Option.some.inj h1
   refine ⟨W.s.heap.objs.size,?_,.inr rfl,hm _ l hself,?_,fun r hr=>?_,fun z=>?_⟩
   ·rw [List.getElem?_append_right (by rw [R.len];exact hi),R.len,hi'];rfl
   ·refine ak1 R.cur fun _ m hmm _=>?_;exact Nat.ne_of_gt hmm.lt
   ·refine ak1 (R.outs r hr) fun _ m hmm _=>?_;exact Nat.ne_of_gt hmm.lt
   ·refine ak1 (R.stk.mem z) fun _ o' e _=>?_;exact ltL e rfl
 ·have old:∀ {i:Nat}{a:Addr}{m1:MO},(st.objs++[mo])[i]? = some m1→(W.rho++[W.s.heap.objs.size])[i]? = some a→(i < st.objs.length∧W.rho[i]? = some a∧a≠W.s.heap.objs.size)∨(i=st.objs.length∧a=W.s.heap.objs.size):=fun {i a m1} h1 h2=>by
   rcases Nat.lt_or_ge i st.objs.length with hi | hi
   ·rw [List.getElem?_append_left (by rw [R.len];exact hi)] at h2
    obtain ⟨o',e⟩:=R.rin a (List.mem_of_getElem? h2)
    exact .inl ⟨hi,h2,ltL e⟩
   ·have:=(List.getElem?_eq_some_iff.mp h1).1
    simp at this
    have hi':i=st.objs.length:=by walk_at "O"
    subst hi'
    rw [List.getElem?_append_right (by rw [R.len];exact Nat.le_refl _),R.len,Nat.sub_self] at h2
    exact .inr ⟨rfl,(Option.some.inj h2).symm⟩
  intro i j a m1 m2 h1 h2 h3 h4 h5 h6
  rcases old h1 h5 with ⟨a1,a2,a3⟩ | ⟨a1,a2⟩<;>rcases old h3 h6 with ⟨b1,b2,b3⟩ | ⟨b1,b2⟩
  ·rw [List.getElem?_append_left a1] at h1
   rw [List.getElem?_append_left b1] at h3
   exact R.inj i j a m1 m2 h1 h2 h3 h4 a2 b2
  ·exact absurd b2 a3
  ·exact absurd a2 b3
  ·rw [a1,b1]
 ·intro p hp
  refine aQd (R.pins p hp) fun q1 q2 q3 q4=>?_
  refine ⟨.inl q1,hk _ _ q2,fun z=>?_,q4⟩
  rcases List.mem_append.mp z with z | z
  ·exact q3 z
  ·exact ltL q2 (List.mem_singleton.mp z)
noncomputable def azo (mo:MO):M MV:=fun st Q _=>Q (.obj st.objs.length) ⟨st.loc,st.objs++[mo]⟩
theorem aj5.dictNew {pos:Pos}:aj5 S g d (.Dict [] [] pos) (azo (.dict [])):=by
 refine ⟨fun cx A W st QM EM Q E hg hA R hm hQ hE=>?_⟩
 refine wpAny_Dict_empty ?_
 obtain ⟨l,R'⟩:=R.fresh_obj (o:={ cls:=.type "dict",data:=.dict #[] }) (mo:=.dict []) rfl fun W' _ h=>⟨[],0,h,by rfl⟩
 refine hQ _ _ _ _ l R' ?_ hm
 exact bZh ⟨_,by rw [List.getElem?_append_right (by rw [R.len];exact Nat.le_refl _),R.len,Nat.sub_self];rfl⟩
theorem aj5.listNew {pos:Pos}:aj5 S g d (.List [] pos) (azo (.list [])):=by
 refine ⟨fun cx A W st QM EM Q E hg hA R hm hQ hE=>?_⟩
 refine wpAny_List (wpAny_items_nil ⟨by show 0≤sizeLine;walk_at "O",?_⟩)
 obtain ⟨l,R'⟩:=R.fresh_obj (o:={ cls:=.type "list",data:=.seq #[] }) (mo:=.list []) rfl fun W' _ h=>⟨[],0,h,by rfl⟩
 refine hQ _ _ _ _ l R' ?_ hm
 exact bZh ⟨_,by rw [List.getElem?_append_right (by rw [R.len];exact Nat.le_refl _),R.len,Nat.sub_self];rfl⟩
end
end Mine
end
section
set_option genSizeOf false
set_option genInjectivity false
namespace Mine
open PySem PySem.W PyProof.Rows PySem.Calls
section
variable {S:ajA}{g:Sig}{d:Nat}
noncomputable def ajO:MV→M MV
 | .obj i=>fun st Q _=>match st.objs[i]? with
  | some (.list xs)=>Q (.list xs) ⟨st.loc,st.objs.set i .dead⟩
  | some (.dict es)=>Q (.dict es) ⟨st.loc,st.objs.set i .dead⟩
  | some (.set xs)=>Q (.set xs) ⟨st.loc,st.objs.set i .dead⟩
  | _=>False
 | _=>azk
theorem Rel.freeze {cx:Cx}{W:Wd}{st:MSt} (R:Rel S cx W st) {i:Nat}{mo:MO} (h1:st.objs[i]? = some mo) (h2:mo≠.dead) :
  ∃ a,W.rho[i]? = some a∧MOR S W mo a∧cx.base.get? a=none∧Le W { W with D:=fun b=>W.D b∧b≠a }∧Rel S cx { W with D:=fun b=>W.D b∧b≠a } ⟨st.loc,st.objs.set i .dead⟩:=by
 obtain ⟨a,q1,q2,q3,q4,q5,q6⟩:=R.live i mo h1 h2
 have l:Le W { W with D:=fun b=>W.D b∧b≠a }:=⟨fun b o e hd=>⟨e,fun z=>hd z.1⟩,List.prefix_refl _⟩
 have hpin:∀ p∈cx.pins,p.1≠a:=fun p hp e=>(R.pins p hp).2.2.1 (e ▸ List.mem_of_getElem? q1)
 have hb:cx.base.get? a=none:=by
  cases q:cx.base.get? a with
  | none=>rfl
  | some o=>exact absurd q2 (R.fresh _ _ q)
 have hlt:i < st.objs.length:=(List.getElem?_eq_some_iff.mp h1).1
 have old:∀ {j:Nat}{m:MO},(st.objs.set i .dead)[j]? = some m→m≠.dead→j≠i∧st.objs[j]? = some m:=fun {j m} e hn=>by
  rw [List.getElem?_set] at e
  by_cases q:i=j
  ·subst q
   simp only [if_true,hlt] at e
   cases e;exact absurd rfl hn
  ·rw [if_neg q] at e;exact ⟨Ne.symm q,e⟩
 refine ⟨a,q1,q3,hb,l,{ stat:=R.stat,envok:=R.envok,stays:=R.stays,fresh:=fun b o e z=>R.fresh b o e z.1,dlt:=fun b z=>R.dlt b z.1,cur:=R.cur.step l ⟨R.cur.1,Ne.symm q4⟩ fun m hm=>hm,outs:=fun r hr=>(R.outs r hr).step l ⟨(R.outs r hr).1,fun z=>q5 r hr z.symm⟩ fun m hm=>hm,apart:=R.apart,nmnd:=R.nmnd,len:=by rw [List.length_set];exact R.len,rin:=R.rin,live:=?_,inj:=?_,stk:=R.stk,stkD:=fun L hL=>⟨R.stkD L hL,fun z=>q6 (z ▸ hL)⟩,top:=R.top,topOK:=R.topOK,gens:=R.gens,os:=R.os,pins:=fun p hp=>let ⟨z1,z2⟩:=R.pins p hp;⟨⟨z1,hpin p hp⟩,z2⟩ }⟩
 ·intro j m e hn
  obtain ⟨hji,e'⟩:=old e hn
  obtain ⟨b,z1,z2,z3,z4,z5,z6⟩:=R.live j m e' hn
  exact ⟨b,z1,⟨z2,fun z=>hji (R.inj j i a m mo e' hn h1 h2 (z ▸ z1) q1)⟩,z3.step l fun o h=>h,z4,z5,z6⟩
 ·intro j k b m m' e1 n1 e2 n2 r1 r2
  exact R.inj j k b m m' (old e1 n1).2 n1 (old e2 n2).2 n2 r1 r2
theorem aj5.freeze {e:Expr}{m:M MV} (h:aj5 S g d e m):aj5 S g d e (bnd m ajO):=by
 refine ⟨fun cx A W st QM EM Q E hg hA R hm hQ hE=>?_⟩
 refine h.then hg hA R hm (fun W₁ st₁ a u l₁ R₁ va hm₁=>?_) hE
 cases a with
 | obj i=>
  obtain ⟨b,hb⟩:=bzH va
  unfold ajO at hm₁
  dsimp only at hm₁
  cases hx:st₁.objs[i]? with
  | none=>rw [hx] at hm₁; exact hm₁.elim
  | some mo=>
   rw [hx] at hm₁
   cases mo with
   | dead=>exact hm₁.elim
   | tab=>exact hm₁.elim
   | list xs=>
    refine aJF (R₁.freeze hx (by intro q;cases q)) fun a z1 z2 zb l R'=>?_
    obtain rfl:a=b:=Option.some.inj (z1.symm.trans hb)
    revert z2;refine aq2 fun vs c y1 y2=>?_
    refine hQ { W₁ with D:=fun b=>W₁.D b∧b≠a } _ _ _ (l₁.trans l) R' ?_ hm₁
    exact aZX ⟨a,vs,fun z=>z.2 rfl,⟨_,y1,rfl,c,rfl⟩,VRs.mono l _ _ y2⟩
   | dict es=>
    refine aJF (R₁.freeze hx (by intro q;cases q)) fun a z1 z2 zb l R'=>?_
    obtain rfl:a=b:=Option.some.inj (z1.symm.trans hb)
    revert z2;refine aq2 fun ds ep y1 y2=>?_
    refine hQ { W₁ with D:=fun b=>W₁.D b∧b≠a } _ _ _ (l₁.trans l) R' ?_ hm₁
    exact bJS ⟨a,_,ds,ep,fun z=>z.2 rfl,R₁.sysNe zb,y1,⟨rfl,rfl,rfl⟩,rfl,VRd.mono l _ _ y2⟩
   | set xs=>
    refine aJF (R₁.freeze hx (by intro q;cases q)) fun a z1 z2 zb l R'=>?_
    obtain rfl:a=b:=Option.some.inj (z1.symm.trans hb)
    revert z2;refine azC fun o y1 y2=>?_
    refine hQ { W₁ with D:=fun b=>W₁.D b∧b≠a } _ _ _ (l₁.trans l) R' ?_ hm₁
    exact bKN ⟨a,o,fun z=>z.2 rfl,y1,y2⟩
 | _=>exact hm₁.elim
noncomputable def Cx.pin (cx:Cx) (ps:List (Addr×Obj)):Cx:={ cx with pins:=ps++cx.pins }
theorem AOK.pin {cx:Cx}{A:Around}{ps:List (Addr×Obj)} (h:AOK cx d A):AOK (cx.pin ps) d A:=⟨h.frames,h.depth,h.units,h.handled⟩
theorem Fly.unpin {cx:Cx}{W:Wd}{e:Addr}{cls:Value}{s:Shared}{ps:List (Addr×Obj)} (F:Fly (cx.pin ps) W e cls s):Fly cx W e cls s:=by
 cases F with
 | fresh ob a0 vs keeps new he hc hd h0 h1 hg ho=>exact .fresh ob a0 vs keeps new he hc hd h0 h1 hg ho
 | traced B a0 fl J hB hJ up stays new ff tr hfl hg ho=>
  exact .traced B a0 fl J hB (fun a h=>let ⟨q1,q2⟩:=hJ a h;⟨fun z=>q1 (by unfold Cx.pin;rw [List.map_append];exact List.mem_append_right _ z),q2⟩) up stays new ff tr hfl hg ho
theorem Rel.unpin {cx:Cx}{W:Wd}{st:MSt}{ps:List (Addr×Obj)} (R:Rel S (cx.pin ps) W st):Rel S cx W st:=
 {stat:=R.stat,envok:=R.envok,stays:=R.stays,fresh:=R.fresh,dlt:=R.dlt,cur:=R.cur,outs:=R.outs,apart:=R.apart,nmnd:=R.nmnd,len:=R.len,rin:=R.rin,live:=R.live,inj:=R.inj,stk:=R.stk,stkD:=R.stkD,top:=R.top,topOK:=R.topOK,gens:=R.gens,os:=R.os,
  pins:=fun p hp=>R.pins p (List.mem_append_right _ hp) }
theorem Rel.pinNew {cx:Cx}{W:Wd}{st:MSt} (R:Rel S cx W st) {s':Shared} (hk:∀ b o,W.s.heap.get? b=some o→s'.heap.get? b=some o) (hg:AllBare s'.gens) (ho:s'.os=W.s.os)
  {ps:List (Addr×Obj)} (hps:∀ p∈ps,W.s.heap.get? p.1=none∧s'.heap.get? p.1=some p.2) :
  Le W ⟨s',W.rho,fun b=>W.D b∨b∈ps.map (·.1)⟩∧Rel S (cx.pin ps) ⟨s',W.rho,fun b=>W.D b∨b∈ps.map (·.1)⟩ st:=by
 have isnew:∀ b∈ps.map (·.1),W.s.heap.get? b=none:=fun b hb=>by
  refine ajl (List.mem_map.mp hb) fun p hp e1_=>?_;subst e1_
  exact (hps p hp).1
 have l:Le W ⟨s',W.rho,fun b=>W.D b∨b∈ps.map (·.1)⟩:=⟨fun b o e hd=>⟨hk b o e,fun z=>z.elim hd fun z=>by rw [isnew b z] at e;cases e⟩,List.prefix_refl _⟩
 refine ⟨l,{ stat:=R.stat,envok:=R.envok,stays:=fun b o e=>hk b o (R.stays b o e),fresh:=fun b o e z=>z.elim (R.fresh b o e) fun z=>(by have:=R.stays b o e;rw [isnew b z] at this;cases this),dlt:=?_,cur:=R.cur.step l (.inl R.cur.1) fun m hm=>hm.keeps hk,outs:=fun r hr=>(R.outs r hr).step l (.inl (R.outs r hr).1) fun m hm=>hm.keeps hk,apart:=R.apart,nmnd:=R.nmnd,len:=R.len,rin:=fun b hb=>let ⟨o,e⟩:=R.rin b hb;⟨o,hk b o e⟩,live:=?_,inj:=R.inj,stk:=R.stk.of_keeps fun b o e _=>⟨o,hk b o e,rfl⟩,stkD:=fun L hL=>.inl (R.stkD L hL),top:=R.top,topOK:=R.topOK,gens:=hg,os:=ho.trans R.os,pins:=?_ }⟩
 ·intro b hb
  rcases hb with hb | hb
  ·obtain ⟨o,e⟩:=R.dlt b hb;exact ⟨o,hk b o e⟩
  ·refine ajl (List.mem_map.mp hb) fun p hp e2_=>?_;subst e2_
   exact ⟨_,(hps p hp).2⟩
 ·intro i mo h1 h2
  obtain ⟨a,q1,q2,q3,q4,q5,q6⟩:=R.live i mo h1 h2
  exact ⟨a,q1,.inl q2,q3.step l fun o e=>hk a o e,q4,q5,q6⟩
 ·intro p hp
  rcases List.mem_append.mp hp with hp | hp
  ·refine ⟨.inr (List.mem_map_of_mem hp),(hps p hp).2,fun z=>?_,fun z=>?_,fun r hr z=>?_,fun z=>?_⟩
   ·obtain ⟨o,e⟩:=R.rin _ z;rw [(hps p hp).1] at e;cases e
   ·refine ak1 R.cur fun _ m q3_ _=>?_;obtain ⟨o,_,_,e,_⟩:=q3_;have e':=(hps p hp).1;rw [show p.1=cx.env.locals from z,e] at e';cases e'
   ·refine ak1 (R.outs r hr) fun _ m q4_ _=>?_;obtain ⟨o,_,_,e,_⟩:=q4_;have e':=(hps p hp).1;rw [z,e] at e';cases e'
   ·refine ak1 (R.stk.mem z) fun _ o e _=>?_;rw [(hps p hp).1] at e;cases e
  ·refine bke (R.pins p hp) fun q1 q2 q3=>?_
   exact ⟨.inl q1,hk _ _ q2,q3⟩
theorem Rel.repin {cx:Cx}{W:Wd}{st:MSt}{ps ps':List (Addr×Obj)} (R:Rel S (cx.pin ps) W st) {s':Shared} (hk:∀ b o,b∉ps.map (·.1)→W.s.heap.get? b=some o→s'.heap.get? b=some o)
  (hg:AllBare s'.gens) (ho:s'.os=W.s.os) (hm:ps'.map (·.1)=ps.map (·.1)) (hps:∀ p∈ps',s'.heap.get? p.1=some p.2) (hap:∀ p∈cx.pins,p.1∉ps.map (·.1)) :
  Le W { W with s:=s' }∧Rel S (cx.pin ps') { W with s:=s' } st:=by
 have pin:∀ b∈ps.map (·.1),W.D b∧b∉W.rho∧b≠cx.env.locals∧(∀ r∈cx.outer,b≠r.env.locals)∧b∉cx.stk.filterMap (·.frame):=fun b hb=>by
  refine ajl (List.mem_map.mp hb) fun p hp e5_=>?_;subst e5_
  refine akh (R.pins p (List.mem_append_left _ hp)) fun q1 q2 q3 q4 q5 q6=>?_
  exact ⟨q1,q3,q4,q5,q6⟩
 have l:Le W { W with s:=s' }:=⟨fun b o e hd=>⟨hk b o (fun z=>hd (pin b z).1) e,hd⟩,List.prefix_refl _⟩
 refine ⟨l,{ stat:=R.stat,envok:=R.envok,stays:=fun b o e=>hk b o (fun z=>R.fresh b o e (pin b z).1) (R.stays b o e),fresh:=R.fresh,dlt:=?_,cur:=?_,outs:=?_,apart:=R.apart,nmnd:=R.nmnd,len:=R.len,rin:=?_,live:=?_,inj:=R.inj,stk:=?_,stkD:=R.stkD,top:=R.top,topOK:=R.topOK,gens:=hg,os:=ho.trans R.os,pins:=?_ }⟩
 ·intro b hb
  by_cases z:b∈ps.map (·.1)
  ·rw [← hm] at z
   refine ajl (List.mem_map.mp z) fun p hp e6_=>?_;subst e6_
   exact ⟨_,hps p hp⟩
  ·obtain ⟨o,e⟩:=R.dlt b hb;exact ⟨o,hk b o z e⟩
 ·exact R.cur.step l R.cur.1 fun m hm=>hm.at' fun o e=>hk _ o (fun z=>(pin _ z).2.2.1 rfl) e
 ·exact fun r hr=>(R.outs r hr).step l (R.outs r hr).1 fun m hm=>hm.at' fun o e=>hk _ o (fun z=>(pin _ z).2.2.2.1 r hr rfl) e
 ·intro b hb
  obtain ⟨o,e⟩:=R.rin b hb
  exact ⟨o,hk b o (fun z=>(pin b z).2.1 hb) e⟩
 ·intro i mo h1 h2
  obtain ⟨a,q1,q2,q3,q4,q5,q6⟩:=R.live i mo h1 h2
  exact ⟨a,q1,q2,q3.step l fun o e=>hk a o (fun z=>(pin a z).2.1 (List.mem_of_getElem? q1)) e,q4,q5,q6⟩
 ·refine funFrames_frames R.stk fun b hb o e=>hk b o (fun z=>(pin b z).2.2.2.2 hb) e
 ·intro p hp
  rcases List.mem_append.mp hp with hp | hp
  ·have z:p.1∈ps.map (·.1):=by rw [← hm];exact List.mem_map_of_mem hp
   refine bQg (pin _ z) fun q1 q2 q3 q4 q5=>?_
   exact ⟨q1,hps p hp,q2,q3,q4,q5⟩
  ·refine bke (R.pins p (List.mem_append_right _ hp)) fun q1 q2 q3=>?_
   exact ⟨q1,hk _ _ (hap p hp) q2,q3⟩
where
 funFrames_frames {h h' base:Heap}:∀ {l:List Env},h.FunFrames base l→(∀ b∈l.filterMap (·.frame),∀ o,h.get? b=some o→h'.get? b=some o)→h'.FunFrames base l
  | [],_,_=>trivial
  | env::_,⟨hk,⟨L,o,hf,hn,ho,hd⟩,hr⟩,k=>⟨hk,⟨L,o,hf,hn,k L (by simp [hf]) o ho,hd⟩,funFrames_frames hr fun b hb=>k b (by rw [List.filterMap_cons,hf];exact List.mem_cons_of_mem _ hb)⟩
theorem Rel.drop {cx:Cx}{W:Wd}{st:MSt}{ps:List (Addr×Obj)} (R:Rel S (cx.pin ps) W st) {s':Shared} (hk:∀ b o,b∉ps.map (·.1)→W.s.heap.get? b=some o→s'.heap.get? b=some o)
  (hg:AllBare s'.gens) (ho:s'.os=W.s.os) (hap:∀ p∈cx.pins,p.1∉ps.map (·.1)) :
  Le W ⟨s',W.rho,fun b=>W.D b∧b∉ps.map (·.1)⟩∧Rel S cx ⟨s',W.rho,fun b=>W.D b∧b∉ps.map (·.1)⟩ st:=by
 have pin:∀ b∈ps.map (·.1),W.D b∧b∉W.rho∧b≠cx.env.locals∧(∀ r∈cx.outer,b≠r.env.locals)∧b∉cx.stk.filterMap (·.frame):=fun b hb=>by
  refine ajl (List.mem_map.mp hb) fun p hp e0_=>?_;subst e0_
  refine akh (R.pins p (List.mem_append_left _ hp)) fun q1 q2 q3 q4 q5 q6=>?_
  exact ⟨q1,q3,q4,q5,q6⟩
 have l:Le W ⟨s',W.rho,fun b=>W.D b∧b∉ps.map (·.1)⟩:=⟨fun b o e hd=>⟨hk b o (fun z=>hd (pin b z).1) e,fun z=>hd z.1⟩,List.prefix_refl _⟩
 refine ⟨l,{ stat:=R.stat,envok:=R.envok,stays:=fun b o e=>hk b o (fun z=>R.fresh b o e (pin b z).1) (R.stays b o e),fresh:=fun b o e z=>R.fresh b o e z.1,dlt:=fun b z=>(let ⟨o,e⟩:=R.dlt b z.1;⟨o,hk b o z.2 e⟩),cur:=?_,outs:=?_,apart:=R.apart,nmnd:=R.nmnd,len:=R.len,rin:=?_,live:=?_,inj:=R.inj,stk:=?_,stkD:=fun L hL=>⟨R.stkD L hL,fun z=>(pin L z).2.2.2.2 hL⟩,top:=R.top,topOK:=R.topOK,gens:=hg,os:=ho.trans R.os,pins:=?_ }⟩
 ·exact R.cur.step l ⟨R.cur.1,fun z=>(pin _ z).2.2.1 rfl⟩ fun m hm=>hm.at' fun o e=>hk _ o (fun z=>(pin _ z).2.2.1 rfl) e
 ·exact fun r hr=>(R.outs r hr).step l ⟨(R.outs r hr).1,fun z=>(pin _ z).2.2.2.1 r hr rfl⟩ fun m hm=>hm.at' fun o e=>hk _ o (fun z=>(pin _ z).2.2.2.1 r hr rfl) e
 ·intro b hb
  obtain ⟨o,e⟩:=R.rin b hb
  exact ⟨o,hk b o (fun z=>(pin b z).2.1 hb) e⟩
 ·intro i mo h1 h2
  obtain ⟨a,q1,q2,q3,q4,q5,q6⟩:=R.live i mo h1 h2
  have hn:a∉ps.map (·.1):=fun z=>(pin a z).2.1 (List.mem_of_getElem? q1)
  exact ⟨a,q1,⟨q2,hn⟩,q3.step l fun o e=>hk a o hn e,q4,q5,q6⟩
 ·exact Rel.repin.funFrames_frames R.stk fun b hb o e=>hk b o (fun z=>(pin b z).2.2.2.2 hb) e
 ·intro p hp
  refine bke (R.pins p (List.mem_append_right _ hp)) fun q1 q2 q3=>?_
  exact ⟨⟨q1,hap p hp⟩,hk _ _ (hap p hp) q2,q3⟩
theorem aZe:∀ {l:List Addr}{h:Heap},(∀ b∈l,∃ o,h.get? b=some o)→∃ ps:List (Addr×Obj),ps.map (·.1)=l∧∀ p∈ps,h.get? p.1=some p.2
 | [],_,_=>⟨[],rfl,fun _ h=>nomatch h⟩
 | b::l,h,H=>by
  obtain ⟨o,e⟩:=H b (.head _)
  refine ajl (aZe (l:=l) (h:=h) fun b hb=>H b (.tail _ hb)) fun ps h1 h2=>?_
  exact ⟨(b,o)::ps,by simp [h1],fun p hp=>by rcases List.mem_cons.mp hp with rfl | hp;exact e;exact h2 p hp⟩
structure ItF (S:ajA) (cx:Cx) (W:Wd) (I:Addr) (xs:List MV) (ps:List (Addr×Obj)) (fp:List Addr) (P:Nat→Value→Prop) (St:Nat→Heap→Prop):Prop where
 walks:∀ A:Around,A.handled=none→Walks S.prog S.w A I fp (ps.map (·.1)) xs.length P St
 st:St 0 W.s.heap
 ex:∀ i h,St i h→∀ b∈ps.map (·.1),∃ o,h.get? b=some o
 ro:∀ b∈fp,b∉ps.map (·.1)→¬ W.D b∧∃ o,W.s.heap.get? b=some o
 items:∀ i v mv,P i v→xs[i]? = some mv→VR S.w.params S.C W mv v
 ap:∀ p∈cx.pins,p.1∉ps.map (·.1)
noncomputable def IOk (S:ajA) (cx:Cx) (W:Wd) (QM:List MV→MSt→Prop) (Q:Value→Shared→Prop):Prop:=
 ∀ W' st' xs I ps fp P St,Le W W'→Rel S (cx.pin ps) W' st'→ItF S cx W' I xs ps fp P St→QM xs st'→Q (.ref I) W'.s
theorem IOk.tr {S:ajA}{cx:Cx}{W W₁:Wd}{QM:List MV→MSt→Prop}{Q:Value→Shared→Prop} (h:IOk S cx W QM Q) (l:Le W W₁):IOk S cx W₁ QM Q:=fun W' st' xs I ps fp P St l'=>h W' st' xs I ps fp P St (l.trans l')
noncomputable def aqn (S:ajA) (d:Nat) (m:MV→M (List MV)):Prop:=
 ∀ (cx:Cx) (A:Around) (W:Wd) (st:MSt) (QM:List MV→MSt→Prop) (EM:Value→MSt→Prop) (Q:Value→Shared→Prop) (E:Value→Shared→Prop) (a:MV) (u:Value),
  AOK cx d A→Rel S cx W st→VR S.w.params S.C W a u→m a st QM EM→
  IOk S cx W QM Q→
  (EOk S cx W EM E)→
  wpAny (model S.prog S.w) A (pyIter u) Q E W.s
noncomputable def aqu:List MV→(MV→M Unit)→M MF→M MF
 | [],_,_=>ret .next
 | x::xs,t,b=>bnd (t x) fun _=>bnd b fun f=>match f with
  | .next=>aqu xs t b
  | .cont=>aqu xs t b
  | .brk=>ret .next
  | .ret v=>ret (.ret v)
noncomputable def bqg (e:Expr):Bool:=!(e.ctorIdx == 7)
theorem aq8 {e:Expr}{env:Env}{x:Value} (h:bqg e=true):foldedSetIterable e env x=pure x:=by
 cases e<;>first | rfl | cases h
noncomputable def ak9 (S:ajA) (g:Sig) (d:Nat) (e:Expr) (m:M (List MV)):Prop:=
 ∀ (cx:Cx) (A:Around) (W:Wd) (st:MSt) (QM:List MV→MSt→Prop) (EM:Value→MSt→Prop) (Q:Value→Shared→Prop) (E:Value→Shared→Prop),
  g.fits cx→AOK cx d A→Rel S cx W st→m st QM EM→
  IOk S cx W QM Q→
  (EOk S cx W EM E)→
  wpAny (model S.prog S.w) A (eval e cx.env) (fun v s₁=>wpAny (model S.prog S.w) A (pyIter v) Q E s₁) E W.s
theorem ak9.val {e:Expr}{mi:M MV}{mit:MV→M (List MV)} (hi:aj5 S g d e mi) (hit:aqn S d mit):ak9 S g d e (bnd mi mit):=by
 intro cx A W st QM EM Q E hg hA R hm hQ hE
 refine hi.then hg hA R hm (fun W₁ st₁ a u l₁ R₁ va hm₁=>?_) hE
 exact hit cx A W₁ st₁ QM EM Q E a u hA R₁ va hm₁ (hQ.tr l₁) (hE.tr l₁)
theorem bJU {t:Expr}{body:List Stmt}{mt:MV→M Unit}{mb:M MF}{cx:Cx}{A:Around}{W₂ W':Wd}{st':MSt}{QM:MF→MSt→Prop}{EM:Value→MSt→Prop}{Q:Flow→Shared→Prop}{E:Value→Shared→Prop}{K:Flow→Shared→Prop}{ps:List (Addr×Obj)}{x:MV}{v:Value}{rest:List MV}
  (ht:aJ4 S g d (fun env v=>assign t env v) mt) (hb:aj1 S g d body mb) (hg:g.fits cx) (hA:AOK cx d A) (hQ:QOk S cx (FR S.w.params S.C) W₂ QM Q) (hE:EOk S cx W₂ EM E) (l:Le W₂ W') (R:Rel S (cx.pin ps) W' st') (vx:VR S.w.params S.C W' x v) (hm:aqu (x::rest) mt mb st' QM EM)
  (again:∀ W4 st4 f',f' = .next∨f' = .cont→Le W' W4→Rel S (cx.pin ps) W4 st4→aqu rest mt mb st4 QM EM→K f' W4.s) (hbr:∀ s,Q .next s→K .brk s) (hre:∀ u s,Q (.ret u) s→K (.ret u) s) :
  wpAny (model S.prog S.w) A (assign t cx.env v) (fun _ s₂=>wpAny (model S.prog S.w) A (execs body cx.env) K (notedBy (model S.prog S.w) A cx.env fun e s'=>cameBackBy (model S.prog S.w) A cx.env E e s') s₂) (notedBy (model S.prog S.w) A cx.env fun e s'=>cameBackBy (model S.prog S.w) A cx.env E e s') W'.s:=by
 have esc:EOk S (cx.pin ps) W' EM (notedBy (model S.prog S.w) A cx.env fun e s'=>cameBackBy (model S.prog S.w) A cx.env E e s'):=fun W3 st3 e c s'' l3 R3 F3 hm3=>
  bqe (cx:=cx.pin ps) hA.pin R3 F3 fun s4 F4 hnn=>aKG (cx:=cx.pin ps) R3 F4 hnn fun s5 F5=>hE W3 st3 e c s5 (l.trans l3) R3.unpin F5.unpin hm3
 refine ht (cx.pin ps) A _ st' _ EM _ _ x v hg hA.pin R vx hm (fun W3 st3 l3 R3 hm3=>?_) esc
 refine az7.then (cx:=cx.pin ps) hb hg hA.pin R3 hm3 (fun W4 st4 f f' l4 R4 hf hm4=>?_) (esc.tr l3)
 cases f with
 | next=>cases hf;exact again W4 st4 _ (.inl rfl) (l3.trans l4) R4 hm4
 | cont=>cases hf;exact again W4 st4 _ (.inr rfl) (l3.trans l4) R4 hm4
 | brk=>cases hf;exact hbr _ (hQ W4 st4 _ _ (l.trans (l3.trans l4)) R4.unpin frN hm4)
 | ret v=>revert hf;refine azC fun u' e2_ hu=>?_;subst e2_;exact hre _ _ (hQ W4 st4 _ _ (l.trans (l3.trans l4)) R4.unpin (frR hu) hm4)
inductive bZf (S:ajA) (cx:Cx) (W₂:Wd) (bs:List Addr) (St:Nat→Heap→Prop) (xs:List MV) (mt:MV→M Unit) (mb:M MF) (QM:MF→MSt→Prop) (EM:Value→MSt→Prop):Nat→Shared→Prop where
 | mk (i:Nat) (W':Wd) (st':MSt) (ps':List (Addr×Obj)) (hle:i≤xs.length) (l':Le W₂ W') (R':Rel S (cx.pin ps') W' st') (hps':ps'.map (·.1)=bs) (hst:St i W'.s.heap) (hm:aqu (xs.drop i) mt mb st' QM EM):bZf S cx W₂ bs St xs mt mb QM EM (xs.length - i) W'.s
theorem aj9.forL {t iter:Expr}{body:List Stmt}{pos:Pos}{mi:M (List MV)}{mt:MV→M Unit}{mb:M MF} (hi:ak9 S g d iter mi) (ht:aJ4 S g d (fun env v=>assign t env v) mt) (hb:aj1 S g d body mb)
  (hns:bqg iter=true) (hlet:∀ it v,letOwnedTupleGo t it v=pure ()):aj9 S g d (.For t iter body [] pos) (bnd mi fun xs=>aqu xs mt mb):=by
 refine ⟨fun cx A W st QM EM Q E hg hA R hm hQ hE=>?_⟩
 refine wpAny_For (hi cx A W st _ EM _ E hg hA R hm (fun W₂ st₂ xs I ps fp P St l₂ R₂ F hm₂=>?_) hE) (fun x=>aq8 hns)
 have hW:=F.walks A hA.handled
 refine codeAny_forLoop (I:=bZf S cx W₂ (ps.map (·.1)) St xs mt mb QM EM) ?_ xs.length (.mk 0 W₂ st₂ ps (Nat.zero_le _) (Le.refl _) R₂ rfl F.st hm₂) (hlet _)
 intro k s' hinv
 obtain ⟨i,W',st',ps',hle,l',R',hps',hst,hm'⟩:=hinv
 have hap:∀ p∈cx.pins,p.1∉ps'.map (·.1):=by rw [hps'];exact F.ap
 rcases Nat.lt_or_ge i xs.length with hi' | hi'
 ·refine hW.item i W'.s _ _ hi' hst fun v h' tk hP hst' hkeep=>?_
  refine ajl (aZe (F.ex (i + 1) h' hst')) fun ps'' q1 q2=>?_
  obtain ⟨l'',R''⟩:=(R'.repin (s':={ W'.s with heap:=h',toks:=tk }) (ps':=ps'') (by rw [hps'];exact hkeep) R'.gens rfl (q1.trans hps'.symm) q2 hap)
  rw [List.drop_eq_getElem_cons hi'] at hm'
  refine bJU ht hb hg hA (hQ.tr l₂) (hE.tr l₂) (l'.trans l'') R'' (VR.mono (l'.trans l'') _ _ (F.items i v _ hP (List.getElem?_eq_getElem hi'))) hm' (fun W4 st4 f' hf l3 R4 hm4=>?_) (fun _ h=>h) (fun _ _ h=>h)
  have keepSt:St (i + 1) W4.s.heap:=by
   refine hW.frame _ _ _ hst' fun b hb o e=>?_
   by_cases hbp:b∈ps.map (·.1)
   ·rw [← q1] at hbp
    refine ajl (List.mem_map.mp hbp) fun p hp e1_=>?_;subst e1_
    have e2:=q2 p hp
    rw [e] at e2;cases e2
    exact (R4.pins p (List.mem_append_left _ hp)).2.1
   ·refine bKS (F.ro b hb hbp) fun z1 o' z2=>?_
    obtain ⟨y1,y2⟩:=(l'.trans l'').keep b o' z2 z1
    have:o=o':=Option.some.inj (e.symm.trans y1)
    subst this
    exact (l3.keep b o y1 y2).1
  have z:∃ m,m < xs.length - i∧bZf S cx W₂ (ps.map (·.1)) St xs mt mb QM EM m W4.s:=⟨xs.length - (i + 1),by walk_at "O",.mk (i + 1) W4 st4 ps'' hi' (l'.trans (l''.trans l3)) R4 q1 keepSt hm4⟩
  rcases hf with rfl | rfl<;>exact z
 ·obtain rfl:i=xs.length:=Nat.le_antisymm hle hi'
  refine hW.done W'.s _ _ hst fun h' tk hkeep=>?_
  have hdead:∀ b o,b∉ps'.map (·.1)→W'.s.heap.get? b=some o→h'.get? b=some o:=by rw [hps'];exact hkeep
  rw [List.drop_length] at hm'
  obtain ⟨l'',R''⟩:=(R'.drop (s':={ W'.s with heap:=h',toks:=tk }) hdead R'.gens rfl hap)
  exact wpAny_execs_nil (hQ ⟨{ W'.s with heap:=h',toks:=tk },W'.rho,fun b=>W'.D b∧b∉ps'.map (·.1)⟩ st' _ _ (l₂.trans (l'.trans l'')) R'' frN hm')
end
end Mine
end
section
set_option genSizeOf false
set_option genInjectivity false
namespace Mine
open PySem PySem.W PyProof.Rows PySem.Calls
section
variable {S:ajA}{g:Sig}{d:Nat}
noncomputable def akK:Nat→M Bool→M MF→M MF
 | 0,_,_=>azk
 | n + 1,c,b=>bnd c fun t=>cond t (bnd b fun f=>match f with
   | .next=>akK n c b
   | .cont=>akK n c b
   | .brk=>ret .next
   | .ret v=>ret (.ret v)) (ret .next)
noncomputable def avQ (c:M Bool) (b:M MF):M MF:=fun st Q E=>∃ n,akK n c b st Q E
theorem aj9.whileL {test:Expr}{body:List Stmt}{pos:Pos}{mc:M Bool}{mb:M MF} (hc:ajf S g d test mc) (hb:aj1 S g d body mb):aj9 S g d (.While test body [] pos) (avQ mc mb):=by
 refine ⟨fun cx A W st QM EM Q E hg hA R hm hQ hE=>?_⟩
 obtain ⟨n,hm⟩:=hm
 refine wpAny_While ?_
 refine codeAny_whileLoop (I:=fun k s'=>∃ (W':Wd) (st':MSt),s'=W'.s∧Le W W'∧Rel S cx W' st'∧akK k mc mb st' QM EM) ?_ n ⟨W,st,rfl,Le.refl W,R,hm⟩
 rintro k s' ⟨W',st',rfl,l',R',hm'⟩
 cases k with
 | zero=>exact hm'.elim
 | succ k=>
  have esc:∀ W3 st3 e c s'',Le W' W3→Rel S cx W3 st3→Fly cx W3 e c s''→EM c st3→
    notedBy (model S.prog S.w) A cx.env (fun e s'=>cameBackBy (model S.prog S.w) A cx.env E e s') (.ref e) s'':=fun W3 st3 e c s'' l3 R3 F3 hm3=>by
   refine bqe hA R3 F3 fun s4 F4 hnn=>?_
   exact aKG R3 F4 hnn fun s5 F5=>hE W3 st3 e c s5 (l'.trans l3) R3 F5 hm3
  refine az7.then hc hg hA R' hm' (fun W3 st3 t t' l3 R3 e hm3=>?_) esc
  subst e
  cases t with
  | false=>exact wpAny_execs_nil (hQ W3 st3 _ _ (l'.trans l3) R3 frN hm3)
  | true=>
   refine az7.then hb hg hA R3 hm3 (fun W4 st4 f f' l4 R4 hf hm4=>?_) fun W4 st4 e c s'' l4=>esc W4 st4 e c s'' (l3.trans l4)
   cases f with
   | next=>cases hf;exact ⟨k,Nat.lt_succ_self _,W4,st4,rfl,l'.trans (l3.trans l4),R4,hm4⟩
   | cont=>cases hf;exact ⟨k,Nat.lt_succ_self _,W4,st4,rfl,l'.trans (l3.trans l4),R4,hm4⟩
   | brk=>cases hf;exact hQ W4 st4 _ _ (l'.trans (l3.trans l4)) R4 frN hm4
   | ret v=>revert hf;refine azC fun u' e3_ hu=>?_;subst e3_;exact hQ W4 st4 _ _ (l'.trans (l3.trans l4)) R4 (frR hu) hm4
noncomputable def Nm (S:ajA) (g:Sig) (e:Expr) (v:Value):Prop:=
 ∀ (cx:Cx) (A:Around) (W:Wd) (st:MSt) (Q:Value→Shared→Prop) (E:Value→Shared→Prop),g.fits cx→Rel S cx W st→Q v W.s→wpAny (model S.prog S.w) A (eval e cx.env) Q E W.s
theorem Nm.glob {x:Str}{pos:Pos}{v:Value} (hk:g.sc.names.lookup x=some .globalImplicit) (hm:S.mg x=some v) (hd:(x == ("__debug__" : Str))=false) :
  Nm S g (.Name x pos) v:=by
 intro cx A W st Q E hg R hQ
 have hkk:cx.env.kindOf x=some .globalImplicit:=by unfold Env.kindOf;rw [hg.1];exact hk
 exact Name_function_global R.envok.kind hkk (loadGlobal_global (by rw [R.envok.glob];exact R.stat.g.keeps R.stays) hm hQ) hd
theorem Nm.glbt {x:Str}{pos:Pos}{v:Value} (hk:g.sc.names.lookup x=some .globalImplicit) (hm:S.mg x=none) (hb:bootBuiltins x=some v) (hn:x≠"__name__")
  (hd:(x == ("__debug__" : Str))=false):Nm S g (.Name x pos) v:=by
 intro cx A W st Q E hg R hQ
 have hkk:cx.env.kindOf x=some .globalImplicit:=by unfold Env.kindOf;rw [hg.1];exact hk
 exact Name_function_global R.envok.kind hkk (loadGlobal_builtin (by rw [R.envok.glob];exact R.stat.g.keeps R.stays) hm (by rw [R.envok.blt];exact R.stat.b.keeps R.stays)
  ((R.stat.blt x hn).trans hb) hQ) hd
noncomputable def aZU (S:ajA) (g:Sig) (b:List Stmt) (m:M MF):Prop:=
 ∀ (cx:Cx) (A:Around) (W:Wd) (st:MSt) (QM:MF→MSt→Prop) (EM:Value→MSt→Prop) (Q:Flow→Shared→Prop) (E:Value→Shared→Prop),g.fits cx→Rel S cx W st→m st QM EM→
  (QOk S cx (FR S.w.params S.C) W QM Q)→wpAny (model S.prog S.w) A (execs b cx.env) Q E W.s
theorem aZU.pass {pos}:aZU S g [.Pass pos] (ret .next):=fun cx A W st QM EM Q E hg R hm hQ=>wpAny_execs_cons (wpAny_Pass (wpAny_execs_nil (hQ W st _ _ (Le.refl W) R frN hm)))
theorem aZU.cont {pos}:aZU S g [.Continue pos] (ret .cont):=fun cx A W st QM EM Q E hg R hm hQ=>wpAny_execs_cons (wpAny_Continue (hQ W st _ _ (Le.refl W) R frC hm))
noncomputable def aVz (S:ajA) (e:Expr) (mv:MV):Prop:=
 ∀ (cx:Cx) (A:Around) (W:Wd) (st:MSt) (Q:Value→Shared→Prop) (E:Value→Shared→Prop),Rel S cx W st→
  (∀ W' v,Le W W'→Rel S cx W' st→VR S.w.params S.C W' mv v→Q v W'.s)→wpAny (model S.prog S.w) A (eval e cx.env) Q E W.s
theorem aVz.none {k pos}:aVz S (.Constant .none k pos) .none:=fun cx A W st Q E R hQ=>wpAny_Constant_none (hQ W _ (Le.refl W) R aKW)
theorem aVz.bool {b k pos}:aVz S (.Constant (.bool b) k pos) (.bool b):=fun cx A W st Q E R hQ=>wpAny_Constant_bool (hQ W _ (Le.refl W) R azP)
theorem aVz.str {x k pos}:aVz S (.Constant (.str x) k pos) (.str x):=fun cx A W st Q E R hQ=>wpAny_Constant_str (by
 obtain ⟨l,R'⟩:=R.same (s':={ W.s with toks:=W.s.toks + 1 }) rfl rfl rfl
 exact hQ _ _ l R' bZD)
theorem aZU.retV {e:Expr}{pos}{mv:MV} (h:aVz S e mv):aZU S g [.Return (some e) pos] (ret (.ret mv)):=fun cx A W st QM EM Q E hg R hm hQ=>
 wpAny_execs_cons (wpAny_Return_some (h cx A W st _ _ R fun W' v l R' hv=>hQ W' st _ _ l R' (frR hv) hm))
theorem aZU.setV {e:Expr}{x:Str}{p pos}{mv:MV} (k:Nat) (h:aVz S e mv) (hx:g.nm[k]? = some x) (hk:g.sc.names.lookup x=some .local) (hc:aki e=true) :
  aZU S g [.Assign [.Name x p] e pos] (bnd (ajD k mv) fun _=>ret .next):=fun cx A W st QM EM Q E hg R hm hQ=>
 wpAny_execs_cons (wpAny_Assign_Name (h cx A W st _ _ R fun W' v l R' hv=>aZZ (EM:=EM) hg R' hx hk hv hm fun W'' st'' l' R'' hq=>wpAny_execs_nil (hQ W'' st'' _ _ (l.trans l') R'' frN hq)) (aqD hc))
inductive aqC (K:Frag):Value→List Value→Prop where
 | type {T:String}{mro:List Value} (h:fastBuiltinMro T=some mro):aqC K (.type T) mro
 | own {a:Addr}{oc:Value}{od:Option Addr}{cd:ClassData}{osl:Array (Option Value)} (h:K.lookup a=some ⟨oc,od,.cls cd,osl⟩) (hne:cd.mro.isEmpty=false):aqC K (.ref a) cd.mro
theorem ak4 {M:Model}{A:Around}{E:Value→Shared→Prop}{s:Shared}{K:Frag}{c base:Value}{mro:List Value}{Q:Bool→Shared→Prop} (hb:aqC K c mro) (kin:K.In s.heap) (h:Q (mro.contains base) s) :
  wpAny M A (isSubtype c base) Q E s:=by
 cases hb with
 | type h'=>rw [isSubtype_of_subB (b:=mro.contains base) (by unfold subB;rw [h'];rfl)];exact wpAny_pure h
 | @own a oc od cd osl h' hne=>
  have ho:=kin _ _ h'
  refine wpAny_bind (wpAny_bind (wpAny_bind (wpAny_load ho (wpAny_pure (wpAny_pure ?_)))))
  show wpAny M A (if cd.mro.isEmpty=true then _ else _) Q E s
  rw [if_neg (by rw [hne];exact Bool.false_ne_true)]
  exact wpAny_pure h
theorem axN {M:Model}{A:Around}{E:Value→Shared→Prop}{s:Shared}{K:Frag}{c:Value}{mro:List Value}{Q:Bool→Shared→Prop} (hb:aqC K c mro) (kin:K.In s.heap) (h:Q (mro.contains (.type "BaseException")) s) :
  wpAny M A (isExcClass c) Q E s:=by
 have hi:wpAny M A (isType c) (fun b s'=>b=true∧s'=s) E s:=by
  cases hb with
  | type _=>exact wpAny_pure ⟨rfl,rfl⟩
  | own h' hne=>
   have ho:=kin _ _ h'
   refine wpAny_bind (wpAny_loadPart ho (wpAny_pure ⟨?_,rfl⟩))
   rfl
 refine wpAny_bind (wpAny_mono hi (fun b s' hb'=>?_) fun _ _ x=>x)
 obtain ⟨rfl,rfl⟩:=hb'
 exact ak4 hb kin h
noncomputable def bzB (K:Frag) (c:Value):Prop:=(∃ T,c = .type T∧isSubtype (.type ((Manifest.find? T).elim "type" fun x=>x.metatype)) (.type "tuple")=pure false)∨
 ∃ a od cd osl,c = .ref a∧K.lookup a=some ⟨.type "type",od,.cls cd,osl⟩
theorem bqf {M:Model}{A:Around}{E:Value→Shared→Prop}{s:Shared}{K:Frag}{c:Value}{Q:Bool→Shared→Prop} (hc:bzB K c) (kin:K.In s.heap) (h:Q false s):wpAny M A (isInstance c (.type "tuple")) Q E s:=by
 rcases hc with ⟨T,rfl,ht⟩ | ⟨a,od,cd,osl,rfl,ho⟩
 ·show wpAny M A (do isSubtype (← typeOf (.type T)) (.type "tuple")) Q E s
  refine wpAny_bind (wpAny_pure ?_)
  rw [ht];exact wpAny_pure h
 ·refine wpAny_bind (wpAny_typeOf_ref (kin _ _ ho) ?_)
  exact wpAny_of_eq (isSubtype_of_subB (b:=false) (by decide +kernel)) h
theorem aQi {M:Model}{A:Around}{E:Value→Shared→Prop}{s:Shared}{K:Frag}{c:Value}{e:Addr}{ob:Obj}{mc me:List Value}{Q:Bool→Shared→Prop} (kin:K.In s.heap) (hc:bzB K c) (hb:aqC K c mc) (hx:mc.contains (.type "BaseException")=true)
  (he:s.heap.get? e=some ob) (hbe:aqC K ob.cls me) (h:Q (me.contains c) s):wpAny M A (excMatches (.ref e) c) Q E s:=by
 refine wpAny_bind (bqf hc kin ?_)
 refine wpAny_bind (wpAny_pure ?_)
 refine wpAny_bind (wpAny_bind (wpAny_bind (axN hb kin ?_)))
 rw [hx]
 refine wpAny_pure ?_
 refine wpAny_pure (wpAny_bind (wpAny_typeOf_ref he ?_))
 refine wpAny_bind (wpAny_bind (wpAny_bind (ak4 hbe kin ?_)))
 cases hq:me.contains c with
 | true=>rw [hq] at h;exact wpAny_pure (wpAny_pure (wpAny_pure h))
 | false=>rw [hq] at h;exact wpAny_pure (wpAny_pure (wpAny_pure h))
theorem aQh {M:Model}{A:Around}{E:Value→Shared→Prop}{s:Shared}{K:Frag}{c1 c2:Value}{t e:Addr}{ob:Obj}{mc1 mc2 me:List Value}{Q:Bool→Shared→Prop} (kin:K.In s.heap) (ht:IsTup s.heap t #[c1,c2]) (hb1:aqC K c1 mc1) (hx1:mc1.contains (.type "BaseException")=true)
  (hb2:aqC K c2 mc2) (hx2:mc2.contains (.type "BaseException")=true)
  (he:s.heap.get? e=some ob) (hbe:aqC K ob.cls me) (h:Q (me.contains c1 || me.contains c2) s):wpAny M A (excMatches (.ref e) (.ref t)) Q E s:=by
 revert ht;refine aJE fun o ho hc n hd=>?_
 refine wpAny_bind (wpAny_isInstance ⟨o,ho,hc⟩ isSubtype_tuple_tuple ?_)
 dsimp only
 rw [if_pos rfl]
 refine wpAny_bind (wpAny_seqItems ho hd ?_)
 refine wpAny_bind (wpAny_pure ?_)
 show wpAny M A (forIn [c1,c2] _ _>>=_) Q E s
 refine wpAny_bind (wpAny_bind (wpAny_bind (axN hb1 kin ?_)))
 rw [hx1]
 refine wpAny_pure ?_
 refine wpAny_bind (wpAny_bind (axN hb2 kin ?_))
 rw [hx2]
 refine wpAny_pure ?_
 refine wpAny_pure (wpAny_bind (wpAny_typeOf_ref he ?_))
 refine wpAny_bind (wpAny_bind (wpAny_bind (ak4 hbe kin ?_)))
 cases hq:me.contains c1 with
 | true=>rw [hq] at h;exact wpAny_pure (wpAny_pure (wpAny_pure h))
 | false=>
  rw [hq] at h
  refine wpAny_pure (wpAny_bind (wpAny_bind (ak4 hbe kin ?_)))
  cases hq2:me.contains c2 with
  | true=>rw [hq2] at h;exact wpAny_pure (wpAny_pure (wpAny_pure h))
  | false=>rw [hq2] at h;exact wpAny_pure (wpAny_pure (wpAny_pure h))
inductive bjp (cx:Cx) (W:Wd) (e:Addr) (cls:Value) (s':Shared):Prop
 | mk (B:Heap) (a0:Value) (J:Addr→Prop) (hB:BOk cx W J B) (hJ:JOk cx W J) (up:W.s.heap.UpToSlots s'.heap) (h4:B.StaysIn s'.heap) (h5:B.get? e=none) (h6:s'.heap.FunFrames B cx.stk) (h7:s'.heap.TracedAtW B e cls a0 .none)
   (g:s'.gens=W.s.gens) (o:s'.os=W.s.os):bjp cx W e cls s'
theorem bjp.rel {cx:Cx}{W:Wd}{st:MSt}{e:Addr}{cls:Value}{s':Shared} (D:bjp cx W e cls s') (R:Rel S cx W st):Le W { W with s:=s' }∧Rel S cx { W with s:=s' } st:=by
 obtain ⟨B,a0,J,h1,h2,h3,h4,h5,h6,h7,hg,ho⟩:=D
 exact R.land h1 h2 h3 h4 hg ho
theorem bjp.there {cx:Cx}{W:Wd}{e:Addr}{cls:Value}{s':Shared} (D:bjp cx W e cls s'):∃ ob,s'.heap.get? e=some ob∧ob.cls=cls:=by
 obtain ⟨B,a0,J,h1,h2,h3,h4,h5,h6,h7,hg,ho⟩:=D
 exact h7.there
theorem bjp.keeps {cx:Cx}{W:Wd}{e:Addr}{cls:Value}{s' s'':Shared} (D:bjp cx W e cls s') (hk:∀ b o,s'.heap.get? b=some o→s''.heap.get? b=some o) (hg':s''.gens=s'.gens) (ho':s''.os=s'.os):bjp cx W e cls s'':=by
 obtain ⟨B,a0,J,h1,h2,h3,h4,h5,h6,⟨oe,vs,T,oT,ts,z1,z2,z3,z4,z5,z6,z7,z8,z9⟩,hg,ho⟩:=D
 exact ⟨B,a0,J,h1,h2,h3.trans (Heap.UpToSlots.of_keeps hk),fun b o q=>hk b o (h4 b o q),h5,h6.of_keeps fun b o q _=>⟨o,hk b o q,rfl⟩,⟨oe,vs,T,oT,ts,hk _ _ z1,z2,z3,z4,z5,z6,hk _ _ z7,z8,z9⟩,hg'.trans hg,ho'.trans ho⟩
theorem bjp.again {M:Model}{A:Around}{E:Value→Shared→Prop}{cx:Cx}{W:Wd}{e:Addr}{cls:Value}{s':Shared}{Q:Unit→Shared→Prop} (D:bjp cx W e cls s') (h:∀ s'',bjp cx W e cls s''→Q () s''):wpAny M A (setFlight (.ref e) none) Q E s':=by
 obtain ⟨B,a0,J,h1,h2,h3,h4,h5,h6,h7,hg,ho⟩:=D
 exact aqd h4 h5 h6 h7 fun h' k1 k2 k3 k4=>h _ ⟨B,a0,J,h1,h2,h3.trans k4,k1,h5,k2,k3,hg,ho⟩
noncomputable def aKQ (S:ajA) (g:Sig) (t:Expr) (tab:List (Value×Bool)):Prop:=
 ∀ (cx:Cx) (A:Around) (W:Wd) (st:MSt) (e:Addr) (ob:Obj) (b:Bool) (Q:Bool→Shared→Prop) (E E':Value→Shared→Prop),g.fits cx→Rel S cx W st→W.s.heap.get? e=some ob→(ob.cls,b)∈tab→
  (∀ s',(∀ a o,W.s.heap.get? a=some o→s'.heap.get? a=some o)→s'.gens=W.s.gens→s'.os=W.s.os→Q b s')→
  wpAny (model S.prog S.w) A (eval t cx.env) (fun c s₁=>wpAny (model S.prog S.w) A (excMatches (.ref e) c) Q E s₁) E' W.s
theorem aKQ.one {t:Expr}{c:Value}{mc:List Value}{tab:List (Value×Bool)} (hn:Nm S g t c) (hc:bzB S.K c) (hb:aqC S.K c mc) (hx:mc.contains (.type "BaseException")=true)
  (ht:∀ p∈tab,∃ me,aqC S.K p.1 me∧me.contains c=p.2):aKQ S g t tab:=by
 intro cx A W st e ob b Q E E' hg R he hm hQ
 refine ajl (ht _ hm) fun me h1 h2=>?_
 have kin:S.K.In W.s.heap:=R.stat.kin.keeps R.stays
 refine hn cx A W st _ _ hg R (aQi kin hc hb hx he h1 ?_)
 rw [show me.contains c=b from h2]
 exact hQ _ (fun a o h=>h) rfl rfl
theorem aKQ.two {t1 t2:Expr}{k:Nat}{pos:Pos}{c1 c2:Value}{mc1 mc2:List Value}{tab:List (Value×Bool)} (hn1:Nm S g t1 c1) (hn2:Nm S g t2 c2) (hb1:aqC S.K c1 mc1) (hx1:mc1.contains (.type "BaseException")=true)
  (hb2:aqC S.K c2 mc2) (hx2:mc2.contains (.type "BaseException")=true) (hs1:ajr t1=true) (hs2:ajr t2=true)
  (ht:∀ p∈tab,∃ me,aqC S.K p.1 me∧(me.contains c1 || me.contains c2)=p.2):aKQ S g (.Tuple [t1,t2] k pos) tab:=by
 intro cx A W st e ob b Q E E' hg R he hm hQ
 refine ajl (ht _ hm) fun me h1 h2=>?_
 have kin:S.K.In W.s.heap:=R.stat.kin.keeps R.stays
 refine wpAny_Tuple (wpAny_items_cons (hn1 cx A W st _ _ hg R ?_) (ajT hs1))
 refine wpAny_items_cons (hn2 cx A W st _ _ hg R ?_) (ajT hs2)
 refine wpAny_items_nil ⟨by show 2≤sizeLine;rw [sizeLine_eq];walk_at "O",?_⟩
 have hk:∀ b o,W.s.heap.get? b=some o→(W.s.heap.push { cls:=.type "tuple",data:=.seq #[c1,c2] }).get? b=some o:=fun b o e=>Heap.get?_push_of_some _ e
 refine aQh (kin.keeps hk) ⟨_,Heap.get?_push_size _ rfl,rfl,0,rfl⟩ hb1 hx1 hb2 hx2 (hk _ _ he) h1 ?_
 rw [show (me.contains c1 || me.contains c2)=b from h2]
 exact hQ _ hk rfl rfl
noncomputable def aq0:List (List (Value×Bool)×M MF)→Value→M MF
 | [],c=>axC c
 | (tab,m)::r,c=>fun st Q E=>∃ b,(c,b)∈tab∧(if b then m st Q E else aq0 r c st Q E)
noncomputable def aVE (mb:M MF) (hs:Value→M MF) (mo:M MF):M MF:=fun st Q E=>
 mb st (fun f st'=>match f with | .next=>mo st' Q E | f=>Q f st') (fun c st'=>hs c st' Q E)
noncomputable def aQo (S:ajA) (g:Sig) (d:Nat) (hs:List ExceptHandler) (m:Value→M MF):Prop:=
 ∀ (cx:Cx) (A:Around) (W:Wd) (st:MSt) (QM:MF→MSt→Prop) (EM:Value→MSt→Prop) (Q:Flow→Shared→Prop) (E:Value→Shared→Prop) (e:Addr) (cls:Value) (s':Shared),
  g.fits cx→AOK cx d A→Rel S cx W st→bjp cx W e cls s'→m cls st QM EM→
  (QOk S cx (FR S.w.params S.C) W QM Q)→
  (EOk S cx W EM E)→
  wpAny (model S.prog S.w) A (handleBy (.ref e) cx.env hs) Q E s'
theorem aQo.nil:aQo S g d [] (aq0 []):=by
 intro cx A W st QM EM Q E e cls s' hg hA R D hm hQ hE
 refine wpAny_handleBy_nil ?_
 obtain ⟨B,a0,J,h1,h2,h3,h4,h5,h6,h7,hgn,ho⟩:=D
 refine azS R.top fun e0 r L hst hf0 hf=>?_
 have tr':=h7
 revert h7;refine az3 fun oe vs T oT ts r8_=>?_;revert r8_;refine akT fun z1 z2 z3 z4 z5 r8_=>?_;revert r8_;refine aZd fun z6 z7 z8 z9=>?_
 refine wpAny_bind (wpAny_field z1 z3 z4 ?_)
 rw [if_neg (show ¬ ((Value.ref T == Value.none)=true) from by simp)]
 rw [hf]
 have fin:wpAny (model S.prog S.w) A (setFlight (.ref e) (some L)) (fun _ s''=>E (.ref e) s'') E s':=
  aqd h4 h5 h6 tr' fun h' k1 k2 k3 k4=>hE W st e cls _ (Le.refl W) R (.traced B a0 (rawInt L) J h1 h2 (h3.trans k4) k1 h5 k2 k3 (.inr ⟨L,hf,rfl⟩) hgn ho) hm
 first
  | exact wpAny_bind (wpAny_mono fin (fun _ _ x=>wpAny_throw x) fun _ _ x=>x)
  | exact wpAny_bind (wpAny_pure (wpAny_bind (wpAny_mono fin (fun _ _ x=>wpAny_throw x) fun _ _ x=>x)))
theorem aQo.cons {t:Expr}{tab:List (Value×Bool)}{b₀:Stmt}{suite:List Stmt}{pos:Pos}{rest:List ExceptHandler}{m:M MF}{mr:List (List (Value×Bool)×M MF)} (hs:aKQ S g t tab) (hq:aZU S g (b₀::suite) m) (hr:aQo S g d rest (aq0 mr)) :
  aQo S g d (.ExceptHandler (some t) none (b₀::suite) pos::rest) (aq0 ((tab,m)::mr)):=by
 intro cx A W st QM EM Q E e cls s' hg hA R D hm hQ hE
 revert hm;refine azC fun b hb hm=>?_
 refine ajl D.there fun ob he hcls=>?_
 obtain ⟨l1,R1⟩:=D.rel R
 refine wpAny_handleBy_cons (codeAny_handlers_test ?_) (by intro q;cases q)
 refine hs cx _ { W with s:=s' } st e ob b _ _ _ hg R1 he (by rw [hcls];exact hb) fun s2 hk hg2 ho2=>?_
 have D2:=D.keeps hk hg2 ho2
 cases b with
 | true=>
  refine codeAny_handlers_suite (D2.again fun s3 D3=>?_)
  obtain ⟨l3,R3⟩:=D3.rel R
  exact hq cx _ { W with s:=s3 } st QM EM _ _ hg R3 hm fun W' st' a b l' R' hf hx=>hQ W' st' a b (l3.trans l') R' hf hx
 | false=>exact hr cx A W st QM EM Q E e cls s2 hg hA R D2 hm hQ hE
theorem aj9.tryE {body orelse:List Stmt}{h₀:ExceptHandler}{hs:List ExceptHandler}{pos:Pos}{mb mo:M MF}{mh:Value→M MF} (hb:aj1 S g d body mb) (hh:aQo S g d (h₀::hs) mh) (ho:aj1 S g d orelse mo) :
  aj9 S g d (.Try body (h₀::hs) orelse [] pos) (aVE mb mh mo):=by
 refine ⟨fun cx A W st QM EM Q E hg hA R hm hQ hE=>?_⟩
 refine wpAny_Try_except (az7.then hb hg hA R hm (fun W₁ st₁ f f' l₁ R₁ hf hm₁=>?_) fun W₁ st₁ e c s'' l₁ R₁ F hm₁=>?_)
 ·cases f with
  | next=>cases hf;exact az7.then ho hg hA R₁ hm₁ (hQ.tr l₁) (hE.tr l₁)
  | brk=>cases hf;exact hQ _ _ _ _ l₁ R₁ frB hm₁
  | cont=>cases hf;exact hQ _ _ _ _ l₁ R₁ frC hm₁
  | ret v=>revert hf;refine azC fun u e4_ hu=>?_;subst e4_;exact hQ _ _ _ _ l₁ R₁ (frR hu) hm₁
 ·refine avy hA R₁ F fun s2 hN=>?_
  obtain ⟨B,a0,L,J,hL,hB,hJ,up,hH,hgn,hos⟩:=hN
  refine aqd hH.1 hH.2.1 hH.2.2.1 hH.2.2.2 fun h' k1 k2 k3 k4=>?_
  exact hh cx A W₁ st₁ QM EM Q E e c _ hg hA R₁ ⟨B,a0,J,hB,hJ,up.trans k4,k1,hH.2.1,k2,k3,hgn,hos⟩ hm₁ (hQ.tr l₁) (hE.tr l₁)
end
end Mine
end
section
namespace Mine
open PySem PySem.W PyProof.Rows PySem.Calls Builtin Builtin.ObjectAttr
section
variable {S:ajA}{g:Sig}{d:Nat}
theorem Fly.ofNew {cx:Cx}{W:Wd}{h':Heap}{e:Addr}{X:String}{tk:Nat} (x:Heap.NewExc W.s.heap h' e X):Fly cx W e (.type X) { W.s with heap:=h',toks:=tk }:=by
 refine ax0 x.there fun ob t he hcls hd=>?_
 exact .fresh ob _ _ x.keeps x.new he hcls hd rfl rfl rfl rfl
theorem Fly.ofMade {cx:Cx}{W:Wd}{h':Heap}{e:Addr}{c:Value}{args:List Value} (x:Heap.MadeExcOf W.s.heap h' e c args):Fly cx W e c { W.s with heap:=h' }:=by
 refine ajl x.there fun t he _=>?_
 exact .fresh _ _ _ x.keeps x.new he rfl rfl rfl rfl rfl rfl
theorem aj9.raiseB {x:Str}{np cpos pos:Pos}{es:List Expr}{X N I:String}{ma:M (List MV)} (hn:Nm S g (.Name x np) (.type X)) (hc:ExcClass X N I) (hs:es.all ajr=true) (ha:ajw S g d cpos es ma) :
  aj9 S g d (.Raise (some (.Call (.Name x np) es [] cpos)) none pos) (bnd ma fun as=>gN as (axC (.type X))):=by
 refine ⟨fun cx A W st QM EM Q E hg hA R hm hQ hE=>?_⟩
 refine Raise_new hA.handled (wpAny_Call_ofName (hn cx A W st _ _ hg R (PyProof.Rows.callWith_type (aqk hs) (aq9 hs (az7.then ha hg hA R hm (fun W₁ st₁ as us l₁ R₁ vas hm₁=>?_) hE)))))
 obtain ⟨hlen,hm₁⟩:=bZq hm₁
 exact call_exc_raise (hrest:=by show us.length≤sizeLine;rw [VRs.length vas,sizeLine_eq];walk_at "O") hc fun h' e hx=>hE W₁ st₁ e _ _ l₁ R₁ (Fly.ofNew hx) hm₁
noncomputable def bzC (S:ajA) (C N:Addr) (bm:List Value) (newId:String):Prop:=
 ∃ nm q bs hdct sn sub ab col dd k0 k1 k2 k3 k5,S.K.lookup C=some (excClassObj nm q C N bs bm hdct sn sub ab col dd k0 k1 k2 k3 k5 newId)
theorem aj9.raiseO {x:Str}{np cpos pos:Pos}{es:List Expr}{C N:Addr}{B newId initId:String}{bm:List Value}{ma:M (List MV)} (F:ExcBaseFacts B newId initId bm) (hC:bzC S C N bm newId) (hN:∀ h:Heap,S.K.In h→∃ mN,h.Ns N mN∧mN "__init__" = none)
  (hn:Nm S g (.Name x np) (.ref C)) (hs:es.all ajr=true) (ha:ajw S g d cpos es ma) :
  aj9 S g d (.Raise (some (.Call (.Name x np) es [] cpos)) none pos) (bnd ma fun as=>gN as (axC (.ref C))):=by
 refine ⟨fun cx A W st QM EM Q E hg hA R hm hQ hE=>?_⟩
 revert hC;refine az3 fun nm q bs hdct sn r8_=>?_;revert r8_;refine az3 fun sub ab col dd k0 r8_=>?_;revert r8_;refine bQ4 fun k1 k2 k3 k5 hC=>?_
 refine ajl (hN _ R.stat.kin) fun mN hNs hni=>?_
 refine wpAny_Raise_call_sub F (C:=C) (nm:=nm) (q:=q) (N:=N) (bs:=bs) (hdct:=hdct) (sn:=sn) (sub:=sub) (ab:=ab) (col:=col) (dd:=dd) (k0:=k0) (k1:=k1) (k2:=k2) (k3:=k3) (k5:=k5) (mN:=mN) hA.handled (aqk hs) hni ?_
 refine hn cx A W st _ _ hg R ⟨rfl,aq9 hs (az7.then ha hg hA R hm (fun W₁ st₁ as us l₁ R₁ vas hm₁=>?_) hE)⟩
 obtain ⟨hlen,hm₁⟩:=bZq hm₁
 refine ⟨rfl,?_,(R₁.stat.kin.keeps R₁.stays) _ _ hC,?_,fun h' e hx=>hE W₁ st₁ e _ _ l₁ R₁ (Fly.ofMade hx) hm₁⟩
 ·show us.length≤sizeLine;rw [VRs.length vas,sizeLine_eq];walk_at "O"
 ·exact hNs.keeps R₁.stays
end
section
variable {prog:Program}{w:World}{A:Around}{E:Value→Shared→Prop}{h:Heap}{g:Array GenState}{d:Drawn}{t:Nat}{os:OsState}
variable {nm q:Str}{C N x:Addr}{bs bm:List Value}{sn:List Str}{sub:List Value}{ab:Bool}{col:Option Bool}{dd:Option Addr}{k0 k1 k2 k3 k5:Option Value}{B newId sa owner:String}
 {mN:Str→Option Value}{name:Str}{v:Value}
theorem aZ7 {o:Obj}{Q:Unit→Shared→Prop} (SF:StoreFacts B bm sa owner)
  (hC:h.get? C=some (excClassObj nm q C N bs bm true sn sub ab col dd k0 k1 k2 k3 k5 newId)) (hn:h.Ns N mN) (hns:mN "__setattr__" = none) (hna:mN name=none) (hB:typeLookup (.type B) name=pure none)
  (hx:h.get? x=some o) (hc:o.cls = .ref C) {vs:Array Value} (hdt:o.data = .fields vs) (hdn:o.dict=none)
  (hq:∀ h' tk,h'.get? x=some { cls:=o.cls,dict:=some h.objs.size,data:=o.data,slots:=o.slots }→h'.Ns1 h.objs.size (fun y=>if y=name then some v else none)→
   (∀ b ob,b≠x→h.get? b=some ob→h'.get? b=some ob)→Q () ⟨h',g,d,tk,os⟩) :
  wpAny (model prog w) A (setAttr (.ref x) name v) Q E ⟨h,g,d,t,os⟩:=by
 have bound:=SF.slot.bind (.ref x)
 have pass:=SF.passes (.ref x)
 have ent:∀ {tk:Tok}{A':Around}{E':Value→Shared→Prop}{R:Fin→Shared→Prop}{t':Nat},(∀ s',Q () s'→R (.done (.ret .none)) s')→wpAny (model prog w) A' (Builtin.«object.__setattr__» ⟨[.ref x,.str name tk,v],[]⟩) R E' ⟨h,g,d,t',os⟩:=by
  intro tk A' E' R t' hR
  repeat (first | rw [refuse_eq] | (rw [refuseLoop_ref,pass]) | (with_reducible refine wpAny_loadPart_at hx ?_;rw [hc]) | with_reducible refine wpAny_mroOf_exc hC ?_ | (with_reducible refine wpAny_typeLookup_exc hC hn SF.mro hB ?_;rw [hna]) | wp_step)
  have hxs:x≠h.objs.size:=Nat.ne_of_lt (Heap.lt_size hx)
  have hx₁:(h.push { cls:=.type "dict",data:=.dict #[] }).get? x=some o:=Heap.get?_push_of_some _ hx
  have hnf:({ cls:=o.cls,dict:=some h.objs.size,data:=o.data,slots:=o.slots }:Obj).isFreed=false:=Obj.isFreed_of_fields hdt
  rw [hdn,if_neg (by simp [typeHasDict])]
  rw [hdt]
  dsimp only
  refine wpAny_bind (wpAny_alloc' (wpAny_bind (wpAny_update' hx₁ (wpAny_pure ?_))))
  have empty:((h.push { cls:=.type "dict",data:=.dict #[] }).update x fun o=>{ cls:=o.cls,dict:=some h.objs.size,data:=o.data,slots:=o.slots }).Ns h.objs.size (fun _=>none):=
   ⟨_,#[],_,(Heap.get?_update_ne _ _ _ _ hxs.symm).trans (Heap.get?_push_at rfl rfl),rfl,fun e he=>absurd he (by simp),fun _=>rfl⟩
  show wpAny _ _ (storeInDict h.objs.size (.str name tk) name v) _ _ _
  refine wpAny_bind (wpAny_pure (wpAny_bind (wpAny_nsSet1 (Heap.Ns1.of_empty empty) fun h' hn' hs=>?_)))
  refine azS (hn'.count (Within.cons name v Within.nil)) fun oD esD epD z1 z2 z3=>?_
  refine wpAny_bind (wpAny_lookBehind z1 (by rw [z2];exact pastItsLine_dict (Nat.le_trans z3 (by rw [List.length_cons,List.length_nil,sizeLine_eq];walk_at "O"))) ?_)
  wp_walk
  refine hR _ (hq h' _ ((hs.2 x hxs).trans (Heap.get?_update_self _ hx₁ hnf)) ?_ fun b ob hb e=>?_)
  ·exact hn'
  ·exact (hs.2 b (Nat.ne_of_lt (Heap.lt_size e))).trans ((Heap.get?_update_ne _ _ _ _ hb).trans (Heap.get?_push_of_some _ e))
 repeat (any_goals (first | assumption | (with_reducible refine wpAny_loadPart_at hx ?_;rw [hc]) | (with_reducible refine wpAny_typeLookup_exc hC hn SF.mro SF.slot.lookup ?_;rw [hns]) | wp_step))
 refine codeAny_call_builtin SF.slot.plain SF.entry (wpAny_check_sa SF hC hx hc (ent fun s' hs'=>?_))
 repeat (any_goals (first | assumption | wp_step))
end
section
variable {S:ajA}{g:Sig}{d:Nat}
theorem bjV {e:Expr}{A:Around}{E:Value→Shared→Prop}{Q:Flow→Shared→Prop}{s:Shared}{K:Frag}{C:Addr}{mc:List Value}{od:Option Addr}{cd:ClassData}{osl:Array (Option Value)}{pos:Pos}{env:Env}{prog:Program}{w:World} (hh:A.handled=none)
  (hC:K.lookup C=some ⟨.type "type",od,.cls cd,osl⟩) (hb:aqC K (.ref C) mc) (hx:mc.contains (.type "BaseException")=true)
  (h:wpAny (model prog w) A (eval e env) (fun v s₁=>∃ a ob vs,v = .ref a∧s₁.heap.get? a=some ob∧ob.cls = .ref C∧ob.data = .fields vs∧vs[1]? = some .none∧K.In s₁.heap∧E (.ref a) s₁) E s) :
  wpAny (model prog w) A (exec (.Raise (some e) none pos) env) Q E s:=by
 show wpAny _ A (do standAt pos;raiseStmt env (some (do let v ← eval e env;standAt pos;pure v)) none) Q E s
 refine wpAny_bind (wpAny_standAt ?_)
 unfold raiseStmt
 dsimp only
 refine wpAny_bind (wpAny_bind (wpAny_mono h (fun v s₁ h₁=>wpAny_bind (wpAny_standAt (wpAny_pure ?_))) fun _ _ x=>x))
 revert h₁; refine aQA fun a ob vs e5_ r6_=>?_;subst e5_;obtain ⟨ha,hcls,hd,h1,kin,hE⟩:=r6_
 have hnt:∀ {Q':Bool→Shared→Prop},Q' false s₁→wpAny (model prog w) A (isType (.ref a)) Q' E s₁:=by
  intro Q' hq
  refine wpAny_bind (wpAny_loadPart ha ?_)
  rw [hd];exact wpAny_pure hq
 refine wpAny_bind (wpAny_pure ?_)
 dsimp only
 refine wpAny_bind (wpAny_holding ?_)
 refine wpAny_bind (wpAny_bind (hnt ?_))
 refine wpAny_pure ?_
 refine wpAny_bind (wpAny_bind (wpAny_typeOf_ref ha ?_))
 rw [hcls]
 refine ak4 hb kin ?_
 rw [hx]
 refine wpAny_pure ?_
 refine wpAny_bind (hnt ?_)
 refine wpAny_bind (wpAny_bind (wpAny_typeOf_ref ha ?_))
 rw [hcls]
 refine wpAny_bind (wpAny_typeOf_ref (kin _ _ hC) ?_)
 rw [if_pos (show (Value.type "type" == Value.type "type")=true from by decide)]
 refine wpAny_pure ?_
 refine wpAny_bind (wpAny_bind (wpAny_field ha hd h1 ?_))
 rw [if_neg (by decide)]
 refine wpAny_pure (wpAny_bind (wpAny_handled ?_))
 rw [hh]
 first
  | exact wpAny_throw hE
  | exact wpAny_bind (wpAny_pure (wpAny_throw hE))
theorem bvU {prog:Program}{w:World}{A:Around}{E:Value→Shared→Prop}{s:Shared}{Q:Value→Shared→Prop}{fI x C N:Addr}{fd:FuncData}{oc:Value}{od:Option Addr}{osl:Array (Option Value)}{o:Obj}{vs:Array Value}{self n1 n2 x1 x2:Str}{u1 u2:Value}{p1 p2 p3 p4 p5 p6 p7 p8:Pos}{K:Frag}
  {nm q:Str}{bs bm:List Value}{sn:List Str}{sub:List Value}{ab:Bool}{col:Option Bool}{dd:Option Addr}{k0 k1 k2 k3 k5:Option Value}{B newId sa owner:String}{mN:Str→Option Value}
  (kin:K.In s.heap) (ho:K.lookup fI=some ⟨oc,od,.func fd,osl⟩) (hcd:codeIn K fd.code fd.qualname=true)
  (hbody:fd.body = .stmts [.Assign [.Attribute (.Name self p1) n1 p2] (.Name x1 p3) p4,.Assign [.Attribute (.Name self p5) n2 p6] (.Name x2 p7) p8])
  (hk:fd.scope.kind = .function) (hco:fd.scope.isCoroutine=false) (hgen:fd.scope.isGenerator=false) (hcell:∀ y∈fd.scope.names,y.2≠.cell)
  (hb:BindsTo s fd ⟨[.ref x,u1,u2],[]⟩ [(self,.ref x),(x1,u1),(x2,u2)]) (hl1:fd.scope.names.lookup self=some .local) (hl2:fd.scope.names.lookup x1=some .local) (hl3:fd.scope.names.lookup x2=some .local)
  (hne:self≠x1∧self≠x2∧x1≠x2) (hdeb:(self == ("__debug__" : Str))=false∧(x1 == ("__debug__" : Str))=false∧(x2 == ("__debug__" : Str))=false)
  (SF:StoreFacts B bm sa owner) (hC:K.lookup C=some (excClassObj nm q C N bs bm true sn sub ab col dd k0 k1 k2 k3 k5 newId)) (hn:s.heap.Ns N mN) (hns:mN "__setattr__" = none) (hna1:mN n1=none) (hna2:mN n2=none)
  (hB1:typeLookup (.type B) n1=pure none) (hB2:typeLookup (.type B) n2=pure none)
  (hx:s.heap.get? x=some o) (hc:o.cls = .ref C) (hdt:o.data = .fields vs) (hdn:o.dict=none) (hlim:s.heap.NoLimit) (hroom:A.depth < recursionLimit)
  (hxK:∀ a o,K.lookup a=some o→a≠x) (hNx:N≠x)
  (hQ:∀ h' tk ob,h'.get? x=some ob→ob.cls = .ref C→ob.data = .fields vs→(∀ b o,b≠x→s.heap.get? b=some o→h'.get? b=some o)→Q .none { s with heap:=h',toks:=tk }) :
  wpAny (model prog w) A (call (.ref fI) [.ref x,u1,u2]) Q E s:=by
 refine wpAny_call (codeAny_call_def hroom (kin _ _ ho) rfl hlim (codeRec_of kin hcd) hbody hb hcell (fun y hy=>?_) (fun h₀ hL hk₀=>?_) hco hgen hk)
 ·rcases List.mem_cons.mp hy with rfl | hy
  ·exact hl1
  ·rcases List.mem_cons.mp hy with rfl | hy
   ·exact hl2
   ·rcases List.mem_cons.mp hy with rfl | hy
    ·exact hl3
    ·cases hy
 ·have kO:∀ y,fd.scope.names.lookup y=some .local→(callEnv fd s.heap.objs.size fI).kindOf y=some .local:=fun y h=>h
  have hkf:(callEnv fd s.heap.objs.size fI).scope.kind = .function:=hk
  have v0:([(self,Value.ref x),(x1,u1),(x2,u2)].reverse.lookup self)=some (.ref x):=by
   have a1:(self == x2)=false:=beq_eq_false_iff_ne.mpr hne.2.1
   have a2:(self == x1)=false:=beq_eq_false_iff_ne.mpr hne.1
   simp [List.lookup_cons,a1,a2]
  have v1:([(self,Value.ref x),(x1,u1),(x2,u2)].reverse.lookup x1)=some u1:=by
   have a1:(x1 == x2)=false:=beq_eq_false_iff_ne.mpr hne.2.2
   simp [List.lookup_cons,a1]
  have v2:([(self,Value.ref x),(x1,u1),(x2,u2)].reverse.lookup x2)=some u2:=by simp
  have xL:s.heap.objs.size≠x:=fun q=>absurd (Heap.lt_size hx) (by rw [q];exact Nat.lt_irrefl _)
  obtain ⟨hh,gg,ddd,tt,oss⟩:=s
  refine wpAny_execs_cons (plainObj_wpAny_Assign_Attribute ?_ rfl)
  refine wpAny_Name (wpAny_loadName_local hkf (kO _ hl2) hL v1 ?_) hdeb.2.1
  refine wpAny_Name (wpAny_loadName_local hkf (kO _ hl1) hL v0 ?_) hdeb.1
  refine aZ7 SF (hk₀ _ _ (kin _ _ hC)) (hn.keeps hk₀) hns hna1 hB1 (hk₀ _ _ hx) hc hdt hdn fun h1 tk1 g1 g2 g3=>?_
  have kin1:∀ a ob,K.lookup a=some ob→h1.get? a=some ob:=fun a ob e=>g3 a ob (hxK a ob e) (hk₀ _ _ (kin _ _ e))
  have hL1:=hL.at' (h':=h1) fun o e=>g3 _ o xL e
  have hn1:=(hn.keeps hk₀).at' (h':=h1) fun o e=>g3 _ o hNx e
  refine wpAny_execs_cons (plainObj_wpAny_Assign_Attribute ?_ rfl)
  refine wpAny_Name (wpAny_loadName_local hkf (kO _ hl3) hL1 v2 ?_) hdeb.2.2
  refine wpAny_Name (wpAny_loadName_local hkf (kO _ hl1) hL1 v0 ?_) hdeb.1
  have hdx:h₀.objs.size≠x:=fun q=>absurd (Heap.lt_size (hk₀ _ _ hx)) (by rw [q];exact Nat.lt_irrefl _)
  refine store_attr SF (kin1 _ _ hC) hn1 hns hna2 hB2 (fun q=>hxK _ _ hC q.symm) ⟨_,g1,hc,fun c q=>(by rw [show _=Data.fields vs from hdt] at q;cases q),.inr ⟨_,rfl,hdx,g2⟩⟩ fun h2 tk2 i1 i2 i3=>?_
  refine aJF (i3 _ g1) fun o1 y1 y2 y3 y4 y5=>?_
  refine wpAny_execs_nil (hQ h2 _ o1 y1 (y2.trans hc) (y3.trans hdt) fun b ob hb e=>?_)
  refine i2 b ob hb (fun o₀ dx e0 ed=>?_) (g3 b ob hb (hk₀ _ _ e))
  rw [g1] at e0;cases e0;cases ed
  exact Nat.ne_of_lt (Heap.lt_size (hk₀ _ _ e))
end
section
variable {S:ajA}{g:Sig}{d:Nat}
noncomputable def aKt (as:List MV):Prop:=∃ a b,as=[a,b]
theorem aj9.raiseI {x:Str}{np cpos pos:Pos}{es:List Expr}{ma:M (List MV)}{fI C N:Addr}{fd:FuncData}{oc:Value}{od:Option Addr}{osl:Array (Option Value)}{self n1 n2 x1 x2:Str}{p1 p2 p3 p4 p5 p6 p7 p8:Pos}
  {nm q:Str}{bs bm:List Value}{sn:List Str}{sub:List Value}{ab:Bool}{col:Option Bool}{dd:Option Addr}{k0 k1 k2 k3 k5:Option Value}{B newId initId sa owner:String}
  (F:ExcBaseFacts B newId initId bm) (SF:StoreFacts B bm sa owner) (hC:S.K.lookup C=some (excClassObj nm q C N bs bm true sn sub ab col dd k0 k1 k2 k3 k5 newId))
  (ho:S.K.lookup fI=some ⟨.type "function",od,.func fd,osl⟩) (hcd:codeIn S.K fd.code fd.qualname=true)
  (hbody:fd.body = .stmts [.Assign [.Attribute (.Name self p1) n1 p2] (.Name x1 p3) p4,.Assign [.Attribute (.Name self p5) n2 p6] (.Name x2 p7) p8])
  (hk:fd.scope.kind = .function) (hco:fd.scope.isCoroutine=false) (hgen:fd.scope.isGenerator=false) (hcell:∀ y∈fd.scope.names,y.2≠.cell)
  (hb:∀ (s:Shared) (a b c:Value),S.K.In s.heap→BindsTo s fd ⟨[a,b,c],[]⟩ [(self,a),(x1,b),(x2,c)]) (hl1:fd.scope.names.lookup self=some .local) (hl2:fd.scope.names.lookup x1=some .local) (hl3:fd.scope.names.lookup x2=some .local)
  (hne:self≠x1∧self≠x2∧x1≠x2) (hdeb:(self == ("__debug__" : Str))=false∧(x1 == ("__debug__" : Str))=false∧(x2 == ("__debug__" : Str))=false)
  (hB1:typeLookup (.type B) n1=pure none) (hB2:typeLookup (.type B) n2=pure none)
  (hN:∀ h:Heap,S.K.In h→∃ mN,h.Ns N mN∧mN "__init__" = some (.ref fI)∧mN "__setattr__" = none∧mN n1=none∧mN n2=none)
  (hn:Nm S g (.Name x np) (.ref C)) (hs:es.all ajr=true) (ha:ajw S g (d + 1) cpos es ma) :
  aj9 S g (d + 1) (.Raise (some (.Call (.Name x np) es [] cpos)) none pos) (bnd ma fun as=>aqg (aKt as) (axC (.ref C))):=by
 refine ⟨fun cx A W st QM EM Q E hg hA R hm hQ hE=>?_⟩
 refine aJF (hN _ R.stat.kin) fun mN hNs hni hns hna1 hna2=>?_
 have hdep:=hA.depth
 refine bjV (K:=S.K) (C:=C) (mc:=.ref C::bm) hA.handled hC (.own hC rfl) (by rw [List.contains_cons,F.hasBase,Bool.or_true]) (wpAny_Call_ofName (hn cx A W st _ _ hg R ?_))
 refine wpAny_bind (wpAny_holding (aq9 hs (az7.then ha hg hA R hm (fun W₁ st₁ as us l₁ R₁ vas hm₁=>?_) hE)))
 obtain ⟨⟨a,b,rfl⟩,hm₁⟩:=hm₁
 revert vas;refine aq2 fun u1 _ e0_ r1_=>?_;subst e0_;obtain ⟨v1,u2,_,rfl,v2,rfl⟩:=r1_
 refine wpAny_bind (wpAny_standAt ?_)
 have kin1:=R₁.stat.kin.keeps R₁.stays
 have hpl:=aqk (pos:=cpos) (env:=cx.env) hs
 rcases hW:W₁.s with ⟨hh,gg,dw,tk,os⟩
 rw [hW] at kin1
 rw [hpl]
 refine wpAny_bind (wpAny_keeperOf_exc (kin1 _ _ hC) ?_)
 have hNs1:hh.Ns N mN:=by have:=hNs.keeps R₁.stays;rw [hW] at this;exact this
 refine wpAny_bind (wpAny_call_exc_init F (kin1 _ _ hC) hNs1 hni (kin1 _ _ ho) rfl (fun h' e hx=>?_) (by show 2≤sizeLine;rw [sizeLine_eq];walk_at "O"))
 refine aKb hx.there fun t he ht _=>?_
 have kin2:S.K.In h':=kin1.keeps hx.keeps
 have hlim:h'.NoLimit:=(R₁.stat.nolimit.keeps R₁.stays |> fun z=>by rw [hW] at z;exact z.keeps hx.keeps)
 have enew:∀ a o,S.K.lookup a=some o→a≠e:=fun a o q z=>by
  subst z;have q1:=kin1 _ _ q;rw [hx.new] at q1;cases q1
 refine bvU (K:=S.K) kin2 ho hcd hbody hk hco hgen hcell (hb _ _ _ _ kin2) hl1 hl2 hl3 hne hdeb SF hC (hNs1.keeps hx.keeps) hns hna1 hna2 hB1 hB2 he rfl rfl rfl hlim ?_ enew ?_ ?_
 ·show A.depth + (Code.builtin "type.__call__" ⟨.ref C::[u1,u2],[]⟩).weight < recursionLimit
  have:(Code.builtin "type.__call__" ⟨.ref C::[u1,u2],[]⟩).weight=1:=rfl
  rw [this];walk_at "O"
 ·rintro rfl
  revert hNs1;refine aQA fun o _ _ q _=>?_
  rw [hx.new] at q;cases q
 ·intro h2 tk2 ob g1 g2 g3 g4
  refine ⟨rfl,wpAny_bind (wpAny_holding (wpAny_point (wpAny_pure ⟨e,ob,_,rfl,g1,g2,g3,rfl,fun a o q=>g4 a o (enew a o q) (kin2 a o q),?_⟩)))⟩
  have hee:∀ b o,hh.get? b=some o→b≠e:=fun b o q z=>by subst z;rw [hx.new] at q;cases q
  refine hE W₁ st₁ e _ _ l₁ R₁ ?_ hm₁
  refine .fresh ob _ _ (fun b o q=>?_) ?_ g1 g2 g3 rfl rfl ?_ ?_
  ·rw [hW] at q;exact g4 b o (hee b o q) (hx.keeps b o q)
  ·rw [hW];exact hx.new
  ·rw [hW]
  ·rw [hW]
end
end Mine
end
section
namespace Mine
open PySem PySem.W PyProof.Rows PySem.Calls Builtin
namespace BF
theorem slot_rstrip:Slot "bytes" "rstrip" "bytes.rstrip":=
 .of (owner:="bytes") (n:="rstrip") (by rw [typeLookup_type,builtinLookup_eq_fast];kernel_rfl) (by decide +kernel) (by decide +kernel) (by decide +kernel)
  (by first | exact .inl (by decide +kernel) | exact .inr (by decide +kernel)) (by rw [isSubtype_type];kernel_rfl)
theorem type_rstrip:typeOf (.builtin "bytes.rstrip")=pure (.type "method_descriptor"):=by show builtinType _=_;rw [builtinType_eq_fast];kernel_rfl
theorem entry_rstrip:entryFor table "bytes.rstrip" = some Builtin.«bytes.rstrip»:=entryFor_of_tree (by kernel_rfl)
theorem args_rstrip (a b:Value):argsOk "bytes.rstrip" ⟨[a,b],[]⟩:=by
 dsimp only [argsOk];rw [signature?_of (id:="bytes.rstrip") (n:=['p','i','r','t','s','r']) (o:=['s','e','t','y','b']) (by kernel_rfl) FB.owner_bytes];kernel_rfl
theorem slot_strip:Slot "bytes" "strip" "bytes.strip":=
 .of (owner:="bytes") (n:="strip") (by rw [typeLookup_type,builtinLookup_eq_fast];kernel_rfl) (by decide +kernel) (by decide +kernel) (by decide +kernel)
  (by first | exact .inl (by decide +kernel) | exact .inr (by decide +kernel)) (by rw [isSubtype_type];kernel_rfl)
theorem type_strip:typeOf (.builtin "bytes.strip")=pure (.type "method_descriptor"):=by show builtinType _=_;rw [builtinType_eq_fast];kernel_rfl
theorem entry_strip:entryFor table "bytes.strip" = some Builtin.«bytes.strip»:=entryFor_of_tree (by kernel_rfl)
theorem args_strip (a b:Value):argsOk "bytes.strip" ⟨[a,b],[]⟩:=by
 dsimp only [argsOk];rw [signature?_of (id:="bytes.strip") (n:=['p','i','r','t','s']) (o:=['s','e','t','y','b']) (by kernel_rfl) FB.owner_bytes];kernel_rfl
theorem slot_split:Slot "bytes" "split" "bytes.split":=
 .of (owner:="bytes") (n:="split") (by rw [typeLookup_type,builtinLookup_eq_fast];kernel_rfl) (by decide +kernel) (by decide +kernel) (by decide +kernel)
  (by first | exact .inl (by decide +kernel) | exact .inr (by decide +kernel)) (by rw [isSubtype_type];kernel_rfl)
theorem type_split:typeOf (.builtin "bytes.split")=pure (.type "method_descriptor"):=by show builtinType _=_;rw [builtinType_eq_fast];kernel_rfl
theorem entry_split:entryFor table "bytes.split" = some Builtin.«bytes.split»:=entryFor_of_tree (by kernel_rfl)
theorem args_split (a b:Value):argsOk "bytes.split" ⟨[a,b],[]⟩:=by
 dsimp only [argsOk];rw [signature?_of (id:="bytes.split") (n:=['t','i','l','p','s']) (o:=['s','e','t','y','b']) (by kernel_rfl) FB.owner_bytes];kernel_rfl
theorem slot_join:Slot "bytes" "join" "bytes.join":=
 .of (owner:="bytes") (n:="join") (by rw [typeLookup_type,builtinLookup_eq_fast];kernel_rfl) (by decide +kernel) (by decide +kernel) (by decide +kernel)
  (by first | exact .inl (by decide +kernel) | exact .inr (by decide +kernel)) (by rw [isSubtype_type];kernel_rfl)
theorem type_join:typeOf (.builtin "bytes.join")=pure (.type "method_descriptor"):=by show builtinType _=_;rw [builtinType_eq_fast];kernel_rfl
theorem entry_join:entryFor table "bytes.join" = some Builtin.«bytes.join»:=entryFor_of_tree (by kernel_rfl)
theorem args_join (a b:Value):argsOk "bytes.join" ⟨[a,b],[]⟩:=by
 dsimp only [argsOk];rw [signature?_of (id:="bytes.join") (n:=['n','i','o','j']) (o:=['s','e','t','y','b']) (by kernel_rfl) FB.owner_bytes];kernel_rfl
end BF
theorem aQk:isSubtype (.type "bytes") (.type "tuple")=pure false:=isSubtype_of_subB (by decide +kernel)
noncomputable def aqL (b c:List UInt8):Bool:=decide (c.length≤b.length) && (b.take c.length == c)
noncomputable def aZM (b c:List UInt8):Bool:=decide (c.length≤b.length) && (b.drop (b.length - c.length) == c)
section
variable {t u:Tok}
theorem aVC (n:Nat):Bytes.window n none none=(0,(n:Int)):=by
 unfold Bytes.window
 simp
 split<;>walk_at "O"
theorem aKu (c:Array UInt8):isInstance (.bytes c u) (.type "tuple")=pure false:=by
 have e:isInstance (.bytes c u) (.type "tuple")=isSubtype (.type "bytes") (.type "tuple"):=rfl
 rw [e,aQk]
theorem sas (id n:String) (lo hi:Nat) (x y:Value) (h:checkCount n lo hi 1=pure ()):selfAndSome id n lo hi ⟨[x,y],[]⟩=pure (x,[y]):=by
 show (do checkCount n lo hi 1;pure (x,[y]))=_
 rw [h];rfl
theorem avw (b:Array UInt8):Bytes.payload (.bytes b t)=pure b:=rfl
theorem bjv {name:String}{atEnd:Bool} (b c:Array UInt8) (h:checkCount name 1 3 1=pure ()):Bytes.tailMatchM .bytes name atEnd ⟨[.bytes b t,.bytes c u],[]⟩ =
  PySem.ret (.bool (if ((b.size:Nat):Int) - 0 < (c.size:Nat) then false else if atEnd then b.extract (((b.size:Nat):Int).toNat - c.size) ((b.size:Nat):Int).toNat == c else b.extract (0:Int).toNat ((0:Int).toNat + c.size) == c)):=by
 unfold Bytes.tailMatchM
 simp only [sas _ _ _ _ _ _ h,pure_bind,show ([Value.bytes c u][1]?:Option Value)=none from rfl,show ([Value.bytes c u][2]?:Option Value)=none from rfl,show Bytes.bound? none=pure none from rfl,avw,aVC,List.headD_cons,aKu,KBy.buffer_eq,
  Bool.false_eq_true,if_false]
theorem aJf (b c:List UInt8):Gives («bytes.startswith» ⟨[.bytes b.toArray t,.bytes c.toArray u],[]⟩) (.val (.bool (aqL b c))):=by
 refine .of_eq ((bjv _ _ rfl).trans ?_)
 show PySem.ret _=PySem.ret _
 congr 2
 unfold aqL
 by_cases h:c.length≤b.length
 ·rw [if_neg (by simp;walk_at "O")]
  simp [h]
 ·rw [if_pos (by simp;walk_at "O")]
  simp [h]
theorem aQg (b c:List UInt8):Gives («bytes.endswith» ⟨[.bytes b.toArray t,.bytes c.toArray u],[]⟩) (.val (.bool (aZM b c))):=by
 refine .of_eq ((bjv _ _ rfl).trans ?_)
 show PySem.ret _=PySem.ret _
 congr 2
 unfold aZM
 by_cases h:c.length≤b.length
 ·rw [if_neg (by simp;walk_at "O")]
  simp [h]
  rw [List.take_of_length_le (by simp)]
 ·rw [if_pos (by simp;walk_at "O")]
  simp [h]
noncomputable def ajy (l r:Bool) (set b:List UInt8):List UInt8:=
 let k:=if l then b.dropWhile (fun c=>set.contains c) else b
 if r then (k.reverse.dropWhile (fun c=>set.contains c)).reverse else k
theorem aqa {α : Type} (p : α→Bool):∀ l:List α,(l.dropWhile p).length≤l.length
 | []=>Nat.le_refl _
 | x::l=>by
  rw [List.dropWhile_cons]
  split
  ·exact Nat.le_trans (aqa p l) (by simp)
  ·exact Nat.le_refl _
theorem azX {α : Type} (p : α→Bool):∀ l:List α,(l.dropWhile p).length=l.length→l.dropWhile p=l
 | [],_=>rfl
 | x::l,h=>by
  rw [List.dropWhile_cons] at h ⊢
  split at h
  ·have:=aqa p l;simp at h;walk_at "O"
  ·rename_i hp;rw [if_neg hp]
theorem bzP (l r:Bool) (set b:List UInt8):(ajy l r set b).length≤b.length:=by
 unfold ajy
 have h1:∀ x:List UInt8,((x.reverse.dropWhile (fun c=>set.contains c)).reverse).length≤x.length:=fun x=>by
  rw [List.length_reverse];exact Nat.le_trans (aqa _ _) (by simp)
 cases l<;>cases r<;>skip
 ·exact Nat.le_refl _
 ·exact h1 _
 ·exact aqa _ _
 ·exact Nat.le_trans (h1 _) (aqa _ _)
theorem aVH (l r:Bool) (set b:List UInt8) (h:(ajy l r set b).length=b.length):ajy l r set b=b:=by
 unfold ajy at h;unfold ajy
 have h0:∀ x:List UInt8,((x.reverse.dropWhile (fun c=>set.contains c)).reverse).length≤x.length:=fun x=>by
  rw [List.length_reverse];exact Nat.le_trans (aqa _ _) (by simp)
 have h1:∀ x:List UInt8,((x.reverse.dropWhile (fun c=>set.contains c)).reverse).length=x.length→(x.reverse.dropWhile (fun c=>set.contains c)).reverse=x:=fun x e=>by
  rw [List.length_reverse] at e
  rw [azX _ _ (by rw [e];simp),List.reverse_reverse]
 cases l<;>cases r<;>simp only [if_true,if_false,Bool.false_eq_true] at h ⊢
 ·exact h1 _ h
 ·exact azX _ _ h
 ·have q:=aqa (fun c=>set.contains c) b
  have q2:=h0 (b.dropWhile (fun c=>set.contains c))
  have e:=azX (fun c=>set.contains c) b (by walk_at "O")
  rw [e] at h ⊢
  exact h1 _ h
theorem avX {name:String}{l r:Bool} (b c:List UInt8) (h:checkCount name 0 1 1=pure ()):Gives (Bytes.stripM .bytes name l r ⟨[.bytes b.toArray t,.bytes c.toArray u],[]⟩)
  (if (ajy l r c b).length=b.length then .val (.bytes (ajy l r c b).toArray t) else .bytes (ajy l r c b).toArray):=by
 refine .of_wp fun M A E s Q hq=>?_
 unfold Bytes.stripM
 simp only [sas _ _ _ _ _ _ h,pure_bind]
 have hb:Bytes.bytesLike (toString Bytes.Kind.bytes.name++toString "."++toString name) (.bytes c.toArray u)=pure c.toArray:=by
  unfold Bytes.bytesLike;rw [KBy.buffer_eq];rfl
 simp only [hb,pure_bind,avw]
 have e:(if r=true then ((if l=true then List.dropWhile c.toArray.contains b.toArray.toList else b.toArray.toList).reverse.dropWhile c.toArray.contains).reverse else if l=true then List.dropWhile c.toArray.contains b.toArray.toList else b.toArray.toList)=ajy l r c b:=by
  unfold ajy
  have:(c.toArray.contains:UInt8→Bool)=fun x=>c.contains x:=by funext x;simp
  simp only [this]
 rw [e]
 by_cases hl:(ajy l r c b).length=b.length
 ·rw [if_pos hl] at hq
  rw [if_pos (by simpa using hl)]
  refine wpAny_bind (wpAny_rule ?_)
  refine wpAny_bind ?_
  show wpAny M A (do if (← typeOf (.bytes b.toArray t)) == .type "bytes" then return Value.bytes b.toArray t else Bytes.Kind.new .bytes (← Bytes.payload (.bytes b.toArray t))) _ E s
  refine wpAny_bind (wpAny_typeOf (typeIs_bytes s _ t) ?_)
  rw [if_pos (by decide)]
  refine wpAny_pure (wpAny_pure ⟨_,rfl,?_⟩)
  rw [aVH _ _ _ _ hl] at hq
  exact hq
 ·rw [if_neg hl] at hq
  rw [if_neg (by simpa using hl)]
  exact wpAny_bind (wpAny_mkBytes (wpAny_pure ⟨_,rfl,hq.2⟩) hq.1)
noncomputable def ajv (c:UInt8):List UInt8→List (List UInt8)
 | []=>[[]]
 | x::xs=>if x=c then []::ajv c xs else (x::(ajv c xs).headD [])::(ajv c xs).tail
theorem avh (c:UInt8) (l:List UInt8):ajv c l≠[]:=by
 cases l with
 | nil=>simp [ajv]
 | cons x xs=>dsimp only [ajv];split<;>simp
noncomputable def occ (c:UInt8):Nat→List UInt8→List Nat
 | _,[]=>[]
 | k,x::xs=>if x=c then k::occ c (k + 1) xs else occ c (k + 1) xs
theorem aZn (c:UInt8) (b:List UInt8):∀ (l:List UInt8) (k last:Nat) (acc:List Nat),b.drop k=l→last≤k→
  ((List.range' k l.length).foldl (fun (acc:List Nat×Nat) (i:Nat)=>if (decide (i≥acc.2) && b.toArray.extract i (i + (#[c]:Array UInt8).size) == #[c])=true then (i::acc.1,i + (#[c]:Array UInt8).size) else acc) (acc,last)).1.reverse=acc.reverse++occ c k l
 | [],k,last,acc,h,hl=>by simp [occ]
 | x::xs,k,last,acc,h,hl=>by
  have hk:k < b.length:=by
   have:=congrArg List.length h
   simp at this;walk_at "O"
  have hd:b.drop (k + 1)=xs:=by
   have:=List.drop_eq_getElem_cons hk
   rw [h] at this
   injection this with _ h2
   exact h2.symm
  have hx:b.toArray.extract k (k + (#[c]:Array UInt8).size) = #[x]:=by
   have e:(#[c]:Array UInt8).size=1:=rfl
   rw [e]
   simp only [List.extract_toArray,List.extract_eq_take_drop]
   rw [Nat.add_sub_cancel_left,h]
   rfl
  rw [List.length_cons,List.range'_succ,List.foldl_cons]
  rw [hx]
  by_cases hxc:x=c
  ·subst hxc
   rw [if_pos (by simp;walk_at "O")]
   rw [aZn x b xs (k + 1) (k + (#[x]:Array UInt8).size) (k::acc) hd (by show k + 1≤k + 1;walk_at "O")]
   simp [occ]
  ·rw [if_neg (by simp [hxc])]
   rw [aZn c b xs (k + 1) last acc hd (by walk_at "O")]
   simp [occ,hxc]
theorem bQf (c:UInt8) (b:List UInt8):Bytes.occurrences b.toArray #[c] 0 b.toArray.size=occ c 0 b:=by
 unfold Bytes.occurrences
 have e:(List.range (b.toArray.size + 1 - (0 + (#[c]:Array UInt8).size))).map (· + 0)=List.range' 0 b.length:=by
  rw [List.range_eq_range']
  simp
 simp only [e]
 have:=aZn c b b 0 0 [] (List.drop_zero) (Nat.le_refl _)
 simpa using this
theorem aXf (c:UInt8):∀ (l:List UInt8) (k:Nat),(occ c k l).length≤l.length
 | [],_=>by simp [occ]
 | x::xs,k=>by
  dsimp only [occ]
  split
  ·simp [aXf c xs]
  ·exact Nat.le_trans (aXf c xs _) (by simp)
theorem avs (c:UInt8) (b:List UInt8):∀ (l:List UInt8) (k last:Nat) (parts:Array (Array UInt8)),b.drop k=l→last≤k→
  (let r:=(occ c k l).foldl (fun (x:Array (Array UInt8)×Nat) p=>(x.1.push (b.toArray.extract x.2 p),p + 1)) (parts,last);(r.1.push (b.toArray.extract r.2 b.toArray.size)).toList) =
   parts.toList++((((b.take k).drop last++(ajv c l).headD [])::(ajv c l).tail).map List.toArray)
 | [],k,last,parts,h,hl=>by
  have hk:b.length≤k:=by
   have:=congrArg List.length h
   simp at this;walk_at "O"
  dsimp only [occ,List.foldl_nil,ajv,List.headD_cons,List.append_nil,List.tail_cons,List.map_cons,List.map_nil]
  rw [Array.toList_push]
  congr 2
  simp [List.take_of_length_le hk]
  rw [List.take_of_length_le (by simp)]
 | x::xs,k,last,parts,h,hl=>by
  have hk:k < b.length:=by
   have:=congrArg List.length h
   simp at this;walk_at "O"
  have hd:b.drop (k + 1)=xs:=by
   have:=List.drop_eq_getElem_cons hk
   rw [h] at this
   injection this with _ h2
   exact h2.symm
  have hgx:b[k]=x:=by
   have:=List.drop_eq_getElem_cons hk
   rw [h] at this
   injection this with h1 _
   exact h1.symm
  dsimp only [occ,ajv]
  by_cases hxc:x=c
  ·rw [if_pos hxc,if_pos hxc,List.foldl_cons]
   have ih:=avs c b xs (k + 1) (k + 1) (parts.push (b.toArray.extract last k)) hd (Nat.le_refl _)
   rw [ih]
   rw [Array.toList_push,List.append_assoc]
   congr 1
   have hb:=avh c xs
   cases hbs:ajv c xs with
   | nil=>exact absurd hbs hb
   | cons p ps=>
    simp [List.extract_toArray,List.extract_eq_take_drop]
    rw [List.drop_take]
  ·rw [if_neg hxc,if_neg hxc]
   have ih:=avs c b xs (k + 1) last parts hd (by walk_at "O")
   rw [ih]
   congr 2
   have e:(b.take (k + 1)).drop last=(b.take k).drop last++[x]:=by
    rw [List.take_succ_eq_append_getElem hk,hgx,List.drop_append_of_le_length (by simp;walk_at "O")]
   rw [e,List.append_assoc]
   rfl
theorem bjb (c:UInt8) (b:List UInt8):Bytes.between b.toArray 1 (occ c 0 b)=(ajv c b).map List.toArray:=by
 have h:=avs c b b 0 0 #[] List.drop_zero (Nat.le_refl _)
 refine Eq.trans ?_ (h.trans ?_)
 ·rfl
 ·have hb:=avh c b
  cases hbs:ajv c b with
  | nil=>exact absurd hbs hb
  | cons p ps=>simp
theorem aQw (c:UInt8):∀ (l:List UInt8) (k:Nat),occ c k l=[]→ajv c l=[l]
 | [],_,_=>rfl
 | x::xs,k,h=>by
  dsimp only [occ] at h
  split at h
  ·cases h
  ·rename_i hx
   dsimp only [ajv]
   rw [if_neg hx,aQw c xs (k + 1) h]
   rfl
theorem axV (c:UInt8):∀ l:List UInt8,(ajv c l).length≤l.length + 1∧∀ p∈ajv c l,p.length≤l.length
 | []=>⟨by simp [ajv],fun p hp=>by simp [ajv] at hp;simp [hp]⟩
 | x::xs=>by
  obtain ⟨h1,h2⟩:=axV c xs
  dsimp only [ajv]
  split
  ·exact ⟨by simp;walk_at "O",fun p hp=>by
    rcases List.mem_cons.mp hp with rfl | hp
    ·simp
    ·exact Nat.le_trans (h2 p hp) (by simp)⟩
  ·have hb:=avh c xs
   cases hbs:ajv c xs with
   | nil=>exact absurd hbs hb
   | cons q qs=>
    rw [hbs] at h1 h2
    refine ⟨by simp at h1 ⊢; walk_at "O",fun p hp=>?_⟩
    rcases List.mem_cons.mp hp with rfl | hp
    ·have:=h2 q (.head _);simp;exact this
    ·exact Nat.le_trans (h2 p (.tail _ hp)) (by simp)
theorem bJn (id fname:String) (x:Value):Bytes.bindOptional id fname ["sep","maxsplit"] [x] []=pure [some x,none]:=by
 unfold Bytes.bindOptional
 simp [List.zipIdx,List.any]
theorem aVd {prog:Program}{w:World}{A:Around}{E:Value→Shared→Prop}:∀ (ps:List (List UInt8)) (s:Shared) (Q:List Value→Shared→Prop),(∀ p∈ps,p.length≤sizeLine)→
  (∀ vs k,vs.length=ps.length→(∀ (i:Nat) (p:List UInt8),ps[i]? = some p→∃ tk,vs[i]? = some (.bytes p.toArray tk))→Q vs { s with toks:=k })→wpAny (model prog w) A ((ps.map List.toArray).mapM (Bytes.Kind.new .bytes)) Q E s
 | [],s,Q,_,h=>by
  exact wpAny_pure (h [] s.toks rfl fun i p e=>by simp at e)
 | p::ps,s,Q,hp,h=>by
  simp only [List.map_cons,List.mapM_cons]
  refine wpAny_bind (wpAny_mkBytes ?_ (by simpa using hp p (.head _)))
  refine wpAny_bind (aVd ps _ _ (fun q hq=>hp q (.tail _ hq)) fun vs k hl hv=>wpAny_pure (h _ _ (by simp [hl]) fun i q e=>?_))
  cases i with
  | zero=>cases e;exact ⟨_,rfl⟩
  | succ i=>exact hv i q e
theorem aXj (b:List UInt8) (c:UInt8):Meets («bytes.split» ⟨[.bytes b.toArray t,.bytes [c].toArray u],[]⟩) (fun A R s=>b.length < sizeLine∧∀ (vs:List Value) (k:Nat),vs.length=(ajv c b).length→
  (∀ (i:Nat) (p:List UInt8),(ajv c b)[i]? = some p→∃ tk,vs[i]? = some (.bytes p.toArray tk))→
  R (.ok (.ret (.ref s.heap.objs.size))) { s with heap:=s.heap.push { cls:=.type "list",data:=.seq vs.toArray },toks:=k }):=by
 refine .of_wp fun prog w A R s hS=>?_
 obtain ⟨hl,h⟩:=hS
 obtain ⟨sl1,sl2⟩:=axV c b
 show wpAny _ _ (Bytes.splitM .bytes "split" false ⟨[.bytes b.toArray t,.bytes [c].toArray u],[]⟩) _ _ s
 unfold Bytes.splitM
 simp only [bJn,pure_bind,avw]
 have hb:Bytes.bytesLike (toString Bytes.Kind.bytes.name++toString "."++toString "split") (.bytes [c].toArray u)=pure #[c]:=by
  unfold Bytes.bytesLike;rw [KBy.buffer_eq];rfl
 simp only [hb,pure_bind]
 rw [if_neg (by simp)]
 have ho:(if false=true then Bytes.occurrencesFromRight b.toArray #[c] (if (-1:Int) < 0 then b.toArray.size + 1 else (-1:Int).toNat) else List.take (if (-1:Int) < 0 then b.toArray.size + 1 else (-1:Int).toNat) (Bytes.occurrences b.toArray #[c] 0 b.toArray.size))=occ c 0 b:=by
  rw [if_neg (by simp),if_pos (by decide),bQf,List.take_of_length_le]
  exact Nat.le_trans (aXf c b 0) (by simp)
 simp only [ho]
 by_cases hp:(occ c 0 b).isEmpty=true
 ·rw [if_pos hp]
  have e1:=aQw c b 0 (List.isEmpty_iff.mp hp)
  refine wpAny_bind (wpAny_rule ?_)
  refine wpAny_bind ?_
  show wpAny _ _ (do if (← typeOf (.bytes b.toArray t)) == .type "bytes" then return Value.bytes b.toArray t else Bytes.Kind.new .bytes (← Bytes.payload (.bytes b.toArray t))) _ _ s
  refine wpAny_bind (wpAny_typeOf (typeIs_bytes s _ t) ?_)
  rw [if_pos (by decide)]
  refine wpAny_pure ?_
  refine wpAny_bind (wpAny_newObj_type ?_ (by show 1≤sizeLine;rw [sizeLine_eq];walk_at "O"))
  refine wpAny_pure ⟨_,rfl,h [.bytes b.toArray t] s.toks (by rw [e1];rfl) fun i p e=>?_⟩
  rw [e1] at e
  cases i with
  | zero=>cases e;exact ⟨t,rfl⟩
  | succ i=>simp at e
 ·rw [if_neg hp]
  have e2:Bytes.between b.toArray (#[c]:Array UInt8).size (occ c 0 b)=(ajv c b).map List.toArray:=bjb c b
  rw [e2]
  refine wpAny_bind (aVd _ _ _ (fun p hp=>Nat.le_of_lt (Nat.lt_of_le_of_lt (sl2 p hp) hl)) fun vs k hlen hv=>?_)
  refine wpAny_bind (wpAny_newObj_type ?_ (by show vs.toArray.size≤sizeLine;rw [List.size_toArray,hlen];walk_at "O"))
  exact wpAny_pure ⟨_,rfl,h vs k hlen hv⟩
noncomputable def bIn (c b:List UInt8):Bool:=(List.range (b.length + 1 - c.length)).any fun i=>(b.drop i).take c.length == c
theorem bkN (b c:List UInt8):(Bytes.find? b.toArray c.toArray 0 b.toArray.size).isSome=bIn c b:=by
 unfold Bytes.find? bIn
 rw [Bool.eq_iff_iff,List.find?_isSome,List.any_eq_true]
 simp
theorem aJe {prog:Program}{w:World}{A:Around}{E:Value→Shared→Prop}{s:Shared}{b:Array UInt8}{Q:Int→Shared→Prop} (hh:A.handled=none)
  (h:∀ h' tk e,Heap.NewExc s.heap h' e "TypeError"→E (.ref e) { s with heap:=h',toks:=tk }):wpAny (model prog w) A (asIndex (.bytes b t)) Q E s:=by
 refine wpAny_bind (wpAny_of_eq (a:=none) rfl ?_)
 have hi:typeLookup (.type "bytes") "__index__" = pure none:=by rw [typeLookup_type,builtinLookup_eq_fast];kernel_rfl
 refine wpAny_bind (wpAny_of_eq (a:=none) ?_ ?_)
 ·unfold callSpecial?
  rw [KBy.special_eq hi];rfl
 refine wpAny_bind (wpAny_of_eq (a:="bytes") (by kernel_rfl) ?_)
 exact raiseError_exc excClass_TypeError hh h (by decide +kernel)
theorem azE (b c:List UInt8):Meets («bytes.__contains__» ⟨[.bytes b.toArray t,.bytes c.toArray u],[]⟩) (fun A R s=>A.handled=none∧∀ h' tk,(∀ a o,s.heap.get? a=some o→h'.get? a=some o)→R (.ok (.ret (.bool (bIn c b)))) { s with heap:=h',toks:=tk }):=by
 refine .of_wp fun prog w A R s hS=>?_
 obtain ⟨hh,h⟩:=hS
 show wpAny _ _ (Bytes.containsIn "bytes.__contains__" (.bytes b.toArray t) (.bytes c.toArray u)>>=fun r=>_) _ _ s
 refine wpAny_bind ?_
 refine wpAny_bind (wpAny_attempt (aJe (A:=A.in1) hh fun h' tk e x=>?_))
 refine wpAny_bind (wpAny_of_eq KBy.buffer_eq ?_)
 refine wpAny_bind (wpAny_of_eq KBy.buffer_eq ?_)
 refine wpAny_bind (wpAny_rule (wpAny_pure (wpAny_pure ⟨_,rfl,?_⟩)))
 rw [bkN]
 exact h h' tk x.keeps
theorem azL (b:List UInt8) (i:Int) (h0:0≤i) (h1:i < 256):Gives («bytes.__contains__» ⟨[.bytes b.toArray t,.int i u],[]⟩) (.val (.bool (b.contains i.toNat.toUInt8))):=by
 refine .of_wp fun M A E s Q hq=>?_
 show wpAny _ _ (Bytes.containsIn "bytes.__contains__" (.bytes b.toArray t) (.int i u)>>=fun r=>_) _ _ s
 refine wpAny_bind ?_
 refine wpAny_bind (wpAny_attempt (wpAny_of_eq (a:=i) rfl ?_))
 refine wpAny_bind (wpAny_of_eq KBy.buffer_eq ?_)
 dsimp only
 rw [if_neg (by simp;walk_at "O")]
 refine wpAny_pure (wpAny_pure ⟨_,rfl,?_⟩)
 have e:b.toArray.contains i.toNat.toUInt8=b.contains i.toNat.toUInt8:=by simp
 rw [e];exact hq
end
end Mine
end
section
set_option genSizeOf false
set_option genInjectivity false
namespace Mine
open PySem PySem.W PyProof.Rows PySem.Calls
noncomputable def isN:MV→Bool
 | .none=>true
 | .unb | .bool _ | .int _ | .bytes _ | .str _ | .typ _ | .bi _ | .top _ | .list _ | .tup _ | .dict _ | .set _ | .refs _ | .obj _=>false
noncomputable def aVx:MV→Option Bool
 | .bool b=>some b
 | _=>none
noncomputable def aQn:MV→Option Int
 | .int b=>some b
 | _=>none
noncomputable def bx4:MV→Option Str
 | .str b=>some b
 | _=>none
noncomputable def axR:MV→Option (List UInt8)
 | .bytes b=>some b
 | _=>none
noncomputable def aKP:MV→Option (List MV)
 | .list b=>some b
 | _=>none
noncomputable def bx3:MV→Option (List MV)
 | .tup b=>some b
 | _=>none
theorem bQL {y:MV} (h:isN y=true):y = .none:=by
 have e:cond (isN y) (y = .none) True:=by cases y<;>first | exact trivial | exact rfl
 rw [h] at e;exact e
theorem bx5 {y:MV}{b:Bool} (h:aVx y=some b):y = .bool b:=by
 have e:(aVx y).elim True fun b=>y = .bool b:=by cases y<;>first | exact trivial | exact rfl
 rw [h] at e;exact e
theorem aZN {y:MV}{b:Int} (h:aQn y=some b):y = .int b:=by
 have e:(aQn y).elim True fun b=>y = .int b:=by cases y<;>first | exact trivial | exact rfl
 rw [h] at e;exact e
theorem bJt {y:MV}{b:Str} (h:bx4 y=some b):y = .str b:=by
 have e:(bx4 y).elim True fun b=>y = .str b:=by cases y<;>first | exact trivial | exact rfl
 rw [h] at e;exact e
theorem aQ1 {y:MV}{b:List UInt8} (h:axR y=some b):y = .bytes b:=by
 have e:(axR y).elim True fun b=>y = .bytes b:=by cases y<;>first | exact trivial | exact rfl
 rw [h] at e;exact e
theorem aVw {y:MV}{b:List MV} (h:aKP y=some b):y = .list b:=by
 have e:(aKP y).elim True fun b=>y = .list b:=by cases y<;>first | exact trivial | exact rfl
 rw [h] at e;exact e
theorem bJs {y:MV}{b:List MV} (h:bx3 y=some b):y = .tup b:=by
 have e:(bx3 y).elim True fun b=>y = .tup b:=by cases y<;>first | exact trivial | exact rfl
 rw [h] at e;exact e
noncomputable def aQc {α : Type} (a:MV) (f:Int→M α):M α:=fun st Q E=>aXd (aQn a) fun x=>f x st Q E
noncomputable def azR {α : Type} (a:MV) (f:List UInt8→M α):M α:=fun st Q E=>aXd (axR a) fun x=>f x st Q E
noncomputable def bqa {α : Type} (a:MV) (f:List MV→M α):M α:=fun st Q E=>aXd (aKP a) fun x=>f x st Q E
section
variable {α : Type}{a:MV}{st:MSt}{Q : α→MSt→Prop}{E:Value→MSt→Prop}
theorem azn {f:Int→M α} (h:aQc a f st Q E):∃ x,a = .int x∧f x st Q E:=let ⟨x,e,h⟩:=akW h;⟨x,aZN e,h⟩
theorem aql {f:List UInt8→M α} (h:azR a f st Q E):∃ x,a = .bytes x∧f x st Q E:=let ⟨x,e,h⟩:=akW h;⟨x,aQ1 e,h⟩
theorem aV5 {f:List MV→M α} (h:bqa a f st Q E):∃ x,a = .list x∧f x st Q E:=let ⟨x,e,h⟩:=akW h;⟨x,aVw e,h⟩
end
noncomputable def bJv:MV→Option Nat
 | .obj i=>some i
 | _=>none
theorem bJu {y:MV}{b:Nat} (h:bJv y=some b):y = .obj b:=by
 have e:(bJv y).elim True fun b=>y = .obj b:=by cases y<;>first | exact trivial | exact rfl
 rw [h] at e;exact e
noncomputable def bq9 {α : Type} (a:MV) (f:Nat→M α):M α:=fun st Q E=>aXd (bJv a) fun x=>f x st Q E
theorem aZk {α : Type}{a:MV}{st:MSt}{Q : α→MSt→Prop}{E:Value→MSt→Prop}{f:Nat→M α} (h:bq9 a f st Q E):∃ x,a = .obj x∧f x st Q E:=let ⟨x,e,h⟩:=akW h;⟨x,bJu e,h⟩
noncomputable def bZw {α : Type} (f:MV→M α):List MV→M α
 | [a]=>f a
 | _=>azk
noncomputable def bJw {α : Type} (f:MV→MV→M α):List MV→M α
 | [a,b]=>f a b
 | _=>azk
section
variable {α : Type}{as:List MV}{st:MSt}{Q : α→MSt→Prop}{E:Value→MSt→Prop}
theorem bzr {f:MV→M α} (h:bZw f as st Q E):∃ a,as=[a]∧f a st Q E:=by
 rcases as with _ | ⟨a,_ | ⟨b,r⟩⟩
 ·exact h.elim
 ·exact ⟨a,rfl,h⟩
 ·exact h.elim
theorem aZ0 {f:MV→MV→M α} (h:bJw f as st Q E):∃ a b,as=[a,b]∧f a b st Q E:=by
 rcases as with _ | ⟨a,_ | ⟨b,_ | ⟨c,r⟩⟩⟩
 ·exact h.elim
 ·exact h.elim
 ·exact ⟨a,b,rfl,h⟩
 ·exact h.elim
noncomputable def by1 {α : Type} (f:List UInt8→M α):List MV→M α:=bZw fun a=>azR a f
noncomputable def by2 {α : Type} (f:List UInt8→List UInt8→M α):List MV→M α:=bJw fun a b=>azR a fun x=>azR b fun y=>f x y
theorem bZ5 {f:List UInt8→M α} (h:by1 f as st Q E):∃ x,as=[.bytes x]∧f x st Q E:=by
 refine ajl (bzr h) fun a e2_ h1=>?_;subst e2_
 refine ajl (aql h1) fun x e3_ h2=>?_;subst e3_
 exact ⟨x,rfl,h2⟩
theorem bzj {f:List UInt8→List UInt8→M α} (h:by2 f as st Q E):∃ x y,as=[.bytes x,.bytes y]∧f x y st Q E:=by
 refine ajU (aZ0 h) fun a b e4_ h1=>?_;subst e4_
 refine ajl (aql h1) fun x e5_ h2=>?_;subst e5_
 refine ajl (aql h2) fun y e6_ h3=>?_;subst e6_
 exact ⟨x,y,rfl,h3⟩
end
section
variable {P:Params}{C:Addr}{W:Wd}{us:List Value}
theorem bZc {a:MV} (h:VRs P C W [a] us):∃ u,us=[u]∧VR P C W a u:=by
 revert h;refine aq2 fun u _ e0_ r1_=>?_;subst e0_;obtain ⟨h1,rfl⟩:=r1_
 exact ⟨u,rfl,h1⟩
theorem bxZ {a b:MV} (h:VRs P C W [a,b] us):∃ u v,us=[u,v]∧VR P C W a u∧VR P C W b v:=by
 revert h;refine aq2 fun u _ e2_ r3_=>?_;subst e2_;obtain ⟨h1,h2⟩:=r3_
 refine ajl (bZc h2) fun v e4_ h3=>?_;subst e4_
 exact ⟨u,v,rfl,h1,h3⟩
theorem bXe {a b c:MV} (h:VRs P C W [a,b,c] us):∃ u v w,us=[u,v,w]∧VR P C W a u∧VR P C W b v∧VR P C W c w:=by
 revert h;refine aq2 fun u _ e5_ r6_=>?_;subst e5_;obtain ⟨h1,h2⟩:=r6_
 refine ajU (bxZ h2) fun v w e0_ r1_=>?_;subst e0_;obtain ⟨h3,h4⟩:=r1_
 exact ⟨u,v,w,rfl,h1,h3,h4⟩
end
noncomputable def bJG (x y:Option Bool):Option Bool:=x.bind fun a=>y.map fun b=>a && b
theorem bxX {x y:Option Bool}{r:Bool} (h:bJG x y=some r):∃ a b,x=some a∧y=some b∧r=(a && b):=by
 cases x with
 | none=>cases h
 | some a=>cases y with
  | none=>cases h
  | some b=>cases h;exact ⟨a,b,rfl,rfl,rfl⟩
mutual
noncomputable def aVb:MV→MV→Option Bool
 | .none=>fun y=>cond (isN y) (some true) none
 | .bool a=>fun y=>(aVx y).map fun b=>a == b
 | .int a=>fun y=>(aQn y).map fun b=>decide (a=b)
 | .str a=>fun y=>(bx4 y).map fun b=>a == b
 | .bytes a=>fun y=>(axR y).map fun b=>decide (a=b)
 | .list xs=>fun y=>(aKP y).bind fun ys=>aJc xs ys
 | .tup xs=>fun y=>(bx3 y).bind fun ys=>cond (Nat.beq xs.length ys.length) (aJc xs ys) none
 | _=>fun _=>none
noncomputable def aJc:List MV→List MV→Option Bool
 | []=>fun ys=>some ys.isEmpty
 | x::xs=>fun ys=>match ys with
  | []=>some false
  | y::ys=>bJG (aVb x y) (aJc xs ys)
end
inductive Eqs:MV→MV→Bool→Prop
 | none:Eqs .none .none true
 | bool (a b):Eqs (.bool a) (.bool b) (a == b)
 | int (a b):Eqs (.int a) (.int b) (a == b)
 | str (a b):Eqs (.str a) (.str b) (a == b)
 | bytes (a b):Eqs (.bytes a) (.bytes b) (a == b)
 | list {xs ys r} (h:aJc xs ys=some r):Eqs (.list xs) (.list ys) r
 | tup {xs ys r} (h:aJc xs ys=some r) (hl:xs.length=ys.length):Eqs (.tup xs) (.tup ys) r
theorem bQs:∀ {x y:MV}{r:Bool},aVb x y=some r→Eqs x y r:=by
 intro x y r h
 cases x
 case none=>
  cases hy:isN y with
  | false=>exact nomatch ((congrArg (cond · (some true) none) hy).symm.trans h:(none:Option Bool)=some r)
  | true=>cases bQL hy;cases h;exact .none
 case bool a=>refine ajl (Option.map_eq_some_iff.mp (show (aVx y).map _=_ from h)) fun b h1 e2_=>?_;subst e2_;cases bx5 h1;exact .bool _ _
 case int a=>
  refine ajl (Option.map_eq_some_iff.mp (show (aQn y).map _=_ from h)) fun b h1 e3_=>?_;subst e3_;cases aZN h1
  exact .int _ _
 case str a=>refine ajl (Option.map_eq_some_iff.mp (show (bx4 y).map _=_ from h)) fun b h1 e4_=>?_;subst e4_;cases bJt h1;exact .str _ _
 case bytes a=>
  refine ajl (Option.map_eq_some_iff.mp (show (axR y).map _=_ from h)) fun b h1 e5_=>?_;subst e5_;cases aQ1 h1
  have:decide (a=b)=(a == b):=by by_cases z:a=b<;>simp [z]
  rw [this];exact .bytes _ _
 case list a=>refine ajl (Option.bind_eq_some_iff.mp (show (aKP y).bind _=_ from h)) fun b h1 h2=>?_;cases aVw h1;exact .list h2
 case tup a=>
  refine ajl (Option.bind_eq_some_iff.mp (show (bx3 y).bind _=_ from h)) fun b h1 h2=>?_;cases bJs h1
  cases hl:Nat.beq a.length b.length with
  | false=>rw [hl] at h2;cases h2
  | true=>rw [hl] at h2;exact .tup h2 (Nat.eq_of_beq_eq_true hl)
 all_goals cases h
mutual
noncomputable def mvD:MV→Nat
 | .list xs=>bzJ xs + 1
 | .tup xs=>bzJ xs + 1
 | _=>0
noncomputable def bzJ:List MV→Nat
 | []=>0
 | x::xs=>max (mvD x) (bzJ xs)
end
theorem EqAt.bytes (A:Around) (s:Shared) (a b:List UInt8) (t u:Tok):SeqAt.EqAt A s (.bytes a.toArray t) (.bytes b.toArray u) (a == b):=fun prog w E Q h=>by
 refine wpAny_holding ?_
 refine wpAny_ite_split (fun hab=>?_) (fun hab=>?_)
 ·have e:a=b:=by have:=eq_of_beq hab;injection this with h1 _;exact congrArg Array.toList h1
  subst e
  exact wpAny_bind (wpAny_rule (wpAny_pure (by simpa using h)))
 ·exact wpAny_bind (richCompare_gives (op:=.Eq) (typeIs_bytes s _ t) (typeIs_bytes s _ u) FB.slot_bytes_eq FB.entry_bytes_eq (FB.args_bytes_eq_2 _ _) (gives_bytes_eq a.toArray b.toArray t u) (fun e=>nomatch e) (wpAny_truthy_bool h))
theorem RcAt.bytes (A:Around) (s:Shared) (a b:List UInt8) (t u:Tok):SeqAt.RcAt A s (.bytes a.toArray t) (.bytes b.toArray u) (a == b):=fun prog w E Q h=>
 richCompare_gives (op:=.Eq) (typeIs_bytes s _ t) (typeIs_bytes s _ u) FB.slot_bytes_eq FB.entry_bytes_eq (FB.args_bytes_eq_2 _ _) (gives_bytes_eq a.toArray b.toArray t u) (fun e=>nomatch e) h
theorem RcNeAt.bytes (A:Around) (s:Shared) (a b:List UInt8) (t u:Tok):SeqAt.RcNeAt A s (.bytes a.toArray t) (.bytes b.toArray u) (!(a == b)):=fun prog w E Q h=>
 richCompare_gives (op:=.NotEq) (typeIs_bytes s _ t) (typeIs_bytes s _ u) FB.slot_bytes_ne FB.entry_bytes_ne (FB.args_bytes_ne_2 _ _) (gives_bytes_ne a.toArray b.toArray t u) (fun e=>nomatch e) h
theorem aJP {h:Heap}{a:Addr}{u v:Array Value} (h1:h.IsList a u) (h2:h.IsList a v):u=v:=by
 revert h1;refine aJE fun o ho _ n hd=>?_
 revert h2;refine aJE fun o' ho' _ n' hd'=>?_
 rw [ho] at ho';cases ho'
 rw [hd] at hd';injection hd' with e1 _
theorem bj1 {h:Heap}{a:Addr}{u v:Array Value} (h1:IsTup h a u) (h2:IsTup h a v):u=v:=by
 revert h1;refine aJE fun o ho _ n hd=>?_
 revert h2;refine aJE fun o' ho' _ n' hd'=>?_
 rw [ho] at ho';cases ho'
 rw [hd] at hd';injection hd' with e1 _
structure bZg (A:Around) (s:Shared) (u v:Value) (r:Bool):Prop where
 eq:SeqAt.EqAt A s u v r
 rc:SeqAt.RcAt A s u v r
 ne:SeqAt.RcNeAt A s u v (!r)
theorem bjL {P:Params}{C:Addr}{W:Wd}{A:Around}:∀ (xs:List MV) (ih:∀ x∈xs,∀ (y:MV) (u v:Value) (r:Bool) (A:Around),VR P C W x u→VR P C W y v→aVb x y=some r→A.units + mvD x < cLine→bZg A W.s u v r∧(u=v→r=true))
  (ys:List MV) (us vs:List Value) (r:Bool),VRs P C W xs us→VRs P C W ys vs→aJc xs ys=some r→xs.length=ys.length→A.units + 1 + bzJ xs < cLine→
   (∃ e:Nat→Bool,(∀ j (h1:j < us.toArray.size) (h2:j < vs.toArray.size),SeqAt.EqAt A.in1 W.s us.toArray[j] vs.toArray[j] (e j))∧(List.range us.toArray.size).all e=r)∧(us=vs→r=true):=by
 intro xs
 induction xs with
 | nil=>
  intro ih ys us vs r h1 h2 h hl _
  cases ys with
  | nil=>
   subst h1;subst h2
   cases h
   exact ⟨⟨fun _=>true,fun j h1=>absurd h1 (Nat.not_lt_zero _),rfl⟩,fun _=>rfl⟩
  | cons y ys=>cases hl
 | cons x xs ihs=>
  intro ih ys us vs r h1 h2 h hl hu
  cases ys with
  | nil=>cases hl
  | cons y ys=>
   revert h1;refine aq2 fun u us' e6_ r0_=>?_;subst e6_;obtain ⟨hx,hxs⟩:=r0_
   revert h2;refine aq2 fun v vs' e1_ r2_=>?_;subst e1_;obtain ⟨hy,hys⟩:=r2_
   refine ax0 (bxX h) fun a b ha hb e3_=>?_;subst e3_
   change A.units + 1 + max (mvD x) (bzJ xs) < _ at hu
   obtain ⟨⟨e,he,hr⟩,hs⟩:=ihs (fun x hx=>ih x (.tail _ hx)) ys us' vs' b hxs hys hb (Nat.succ.inj hl) (by walk_at "O")
   obtain ⟨k1,k2⟩:=ih x (.head _) y u v a A.in1 hx hy ha (by show A.units + 1 + mvD x < _;walk_at "O")
   refine ⟨⟨fun j=>match j with | 0=>a | j + 1=>e j,fun j=>?_,?_⟩,fun z=>?_⟩
   ·intro q1 q2
    cases j with
    | zero=>exact k1.eq
    | succ j=>exact he j (Nat.lt_of_succ_lt_succ q1) (Nat.lt_of_succ_lt_succ q2)
   ·simp only [List.size_toArray,List.length_cons] at hr ⊢
    rw [List.range_succ_eq_map,List.all_cons,List.all_map]
    rw [← hr];rfl
   ·injection z with z1 z2
    rw [k2 z1,hs z2];rfl
theorem aKh:∀ (xs ys:List MV) (r:Bool),aJc xs ys=some r→xs.length≠ys.length→r=false
 | [],[],_,_,h=>absurd rfl h
 | [],_::_,r,h,_=>by cases h;rfl
 | _::_,[],r,h,_=>by cases h;rfl
 | x::xs,y::ys,r,h,hl=>by
  refine ax0 (bxX h) fun a b ha hb e4_=>?_;subst e4_
  rw [aKh xs ys b hb (fun z=>hl (congrArg Nat.succ z)),Bool.and_false]
theorem bqm {P:Params}{C:Addr}{W:Wd}:∀ (n:Nat) (x y:MV) (u v:Value) (r:Bool) (A:Around),sizeOf x < n→VR P C W x u→VR P C W y v→aVb x y=some r→A.units + mvD x < cLine→bZg A W.s u v r∧(u=v→r=true):=by
 intro n
 induction n with
 | zero=>intro x y u v r A hn;exact absurd hn (Nat.not_lt_zero _)
 | succ n ih=>
  intro x y u v r A hn hx hy h hu
  have h9:=bQs h
  clear h
  cases h9
  case none=>
   cases aK7 hx;cases aK7 hy
   exact ⟨⟨.same _,.none_none,.none_none⟩,fun _=>rfl⟩
  case bool a b=>
   cases bjX hx;cases bjX hy
   exact ⟨⟨.bool_bool _ _,.bool_bool _ _,.bool_bool _ _⟩,fun z=>by injection z with z;rw [z];exact beq_self_eq_true _⟩
  case int a b=>
   obtain ⟨t,rfl⟩:=aJn hx;obtain ⟨t',rfl⟩:=aJn hy
   exact ⟨⟨.int_int _ _ _ _,.int_int _ _ _ _,.int_int _ _ _ _⟩,fun z=>by injection z with z;rw [z];exact beq_self_eq_true _⟩
  case str a b=>
   obtain ⟨t,rfl⟩:=bZj hx;obtain ⟨t',rfl⟩:=bZj hy
   exact ⟨⟨.str_str _ _ _ _,.str_str _ _ _ _,.str_str _ _ _ _⟩,fun z=>by injection z with z;rw [z];exact beq_self_eq_true _⟩
  case bytes a b=>
   obtain ⟨t,rfl⟩:=ajz hx;obtain ⟨t',rfl⟩:=ajz hy
   exact ⟨⟨EqAt.bytes _ _ _ _ _ _,RcAt.bytes _ _ _ _ _ _,RcNeAt.bytes _ _ _ _ _ _⟩,fun z=>by injection z with z;rw [show a=b from congrArg Array.toList z];exact beq_self_eq_true _⟩
  case list xs ys h=>
   change A.units + (bzJ xs + 1) < _ at hu
   obtain ⟨a,us,_,hl1,hv1⟩:=aJa hx
   obtain ⟨b,vs,_,hl2,hv2⟩:=aJa hy
   clear hx hy
   have hu0:A.units < cLine:=by walk_at "O"
   by_cases hlen:xs.length=ys.length
   ·obtain ⟨⟨e,he,hr⟩,hs⟩:=bjL (A:=A) (W:=W) (P:=P) (C:=C) xs (fun x hx y u v r A h1 h2 h3 h4=>ih x y u v r A (Nat.lt_of_lt_of_le (List.sizeOf_lt_of_mem hx) (by simp at hn;walk_at "O")) h1 h2 h3 h4) ys us vs r hv1 hv2 h hlen (by walk_at "O")
    have hsz:us.toArray.size=vs.toArray.size:=by rw [List.size_toArray,List.size_toArray,VRs.length hv1,VRs.length hv2,hlen]
    have rc:=SeqAt.RcAt.lists hl1 hl2 hsz hu0 he
    have ne:=SeqAt.RcNeAt.lists hl1 hl2 hsz hu0 he
    rw [hr] at rc ne
    have sm:a=b→r=true:=fun z=>by subst z;exact hs (congrArg Array.toList (aJP hl1 hl2))
    refine ⟨⟨?_,rc,ne⟩,fun z=>by injection z with z;exact sm z⟩
    by_cases hab:a=b
    ·rw [sm hab,hab];exact .same _
    ·exact .of_refs hab rc
   ·have hr:=aKh xs ys r h hlen
    subst hr
    have hsz:(us.toArray.size != vs.toArray.size)=true:=by simp [VRs.length hv1,VRs.length hv2,hlen]
    have hab:a≠b:=fun z=>by
     subst z
     have:=congrArg Array.size (aJP hl1 hl2)
     rw [List.size_toArray,List.size_toArray,VRs.length hv1,VRs.length hv2] at this
     exact hlen this
    have rc:=SeqAt.RcAt.lists_lengths (A:=A) hl1 hl2 hsz hu0
    exact ⟨⟨.of_refs hab rc,rc,SeqAt.RcNeAt.lists_lengths hl1 hl2 hsz hu0⟩,fun z=>by injection z with z;exact absurd z hab⟩
  case tup xs ys hlen h=>
   change A.units + (bzJ xs + 1) < _ at hu
   obtain ⟨a,us,_,hl1,hv1⟩:=bzG hx
   obtain ⟨b,vs,_,hl2,hv2⟩:=bzG hy
   clear hx hy
   have hu0:A.units < cLine:=by walk_at "O"
   obtain ⟨⟨e,he,hr⟩,hs⟩:=bjL (A:=A) (W:=W) (P:=P) (C:=C) xs (fun x hx y u v r A h1 h2 h3 h4=>ih x y u v r A (Nat.lt_of_lt_of_le (List.sizeOf_lt_of_mem hx) (by simp at hn;walk_at "O")) h1 h2 h3 h4) ys us vs r hv1 hv2 h hlen (by walk_at "O")
   have hsz:us.toArray.size=vs.toArray.size:=by rw [List.size_toArray,List.size_toArray,VRs.length hv1,VRs.length hv2,hlen]
   have hr':((List.range (min us.toArray.size vs.toArray.size)).all e && us.toArray.size == vs.toArray.size)=r:=by rw [← hsz,Nat.min_self,hr];simp
   have rc:=SeqAt.RcAt.tuples (A:=A) hl1 hl2 hu0 he
   have ne:=SeqAt.RcNeAt.tuples (A:=A) hl1 hl2 hu0 he
   rw [hr'] at rc ne
   have sm:a=b→r=true:=fun z=>by subst z;exact hs (congrArg Array.toList (bj1 hl1 hl2))
   refine ⟨⟨?_,rc,ne⟩,fun z=>by injection z with z;exact sm z⟩
   by_cases hab:a=b
   ·rw [sm hab,hab];exact .same _
   ·exact .of_refs hab rc
end Mine
end
section
set_option genSizeOf false
set_option genInjectivity false
namespace Mine
open PySem PySem.W PyProof.Rows PySem.Calls
section
variable {S:ajA}{g:Sig}{d:Nat}
noncomputable def Res (S:ajA) (t:Sem Value) (mv:MV):Prop:=
 ∀ (A:Around) (s:Shared) (Q:Value→Shared→Prop) (E:Value→Shared→Prop),A.handled=none→A.units + 16 < cLine→s.heap.NoLimit→
  (∀ (v:Value) (h':Heap) (k:Nat),(∀ a o,s.heap.get? a=some o→h'.get? a=some o)→(∀ W,VR S.w.params S.C W mv v)→Q v { s with heap:=h',toks:=k })→wpAny (model S.prog S.w) A t Q E s
theorem Res.sim {t:Sem Value}{mv:MV} (h:Res S t mv) {cx:Cx}{A:Around}{W:Wd}{st:MSt}{QM:MV→MSt→Prop}{Q:Value→Shared→Prop}{E:Value→Shared→Prop} (hA:AOK cx d A) (R:Rel S cx W st) (hm:QM mv st)
  (hQ:QOk S cx (VR S.w.params S.C) W QM Q):wpAny (model S.prog S.w) A t Q E W.s:=
 h A W.s Q E hA.handled (by have:=hA.units;walk_at "O") (R.stat.nolimit.keeps R.stays) fun v h' k hk hv=>by
  obtain ⟨l,R'⟩:=R.keeps (s':={ W.s with heap:=h',toks:=k }) hk R.gens rfl
  exact hQ _ st mv v l R' (hv _) hm
theorem Res.same {t:Sem Value}{mv:MV} (h:∀ (A:Around) (s:Shared) (Q:Value→Shared→Prop) (E:Value→Shared→Prop),A.handled=none→A.units + 16 < cLine→s.heap.NoLimit→
  (∀ (v:Value) (k:Nat),(∀ W,VR S.w.params S.C W mv v)→Q v { s with toks:=k })→wpAny (model S.prog S.w) A t Q E s):Res S t mv:=
 fun A s Q E h1 h2 h3 h4=>h A s Q E h1 h2 h3 fun v k hv=>h4 v s.heap k (fun _ _ e=>e) hv
theorem bjW {P:Params}{C:Addr}{W:Wd}{a:List UInt8}{us:List Value} (h:VRs P C W [.bytes a] us):∃ t,us=[.bytes a.toArray t]:=by
 refine ajl (bZc h) fun u e5_ h1=>?_;subst e5_
 obtain ⟨t,rfl⟩:=ajz h1
 exact ⟨t,rfl⟩
theorem Rel.new {cx:Cx}{W:Wd}{st:MSt}{o:Obj}{k:Nat} (R:Rel S cx W st) (hf:o.isFreed=false) :
  Le W { W with s:={ W.s with heap:=W.s.heap.push o,toks:=k } }∧Rel S cx { W with s:={ W.s with heap:=W.s.heap.push o,toks:=k } } st∧¬ W.D W.s.heap.objs.size∧(W.s.heap.push o).get? W.s.heap.objs.size=some o:=by
 obtain ⟨l,R'⟩:=R.keeps (s':={ W.s with heap:=W.s.heap.push o,toks:=k }) (fun b o e=>Heap.get?_push_of_some _ e) R.gens rfl
 exact ⟨l,R',fun q=>by obtain ⟨o,e⟩:=R.dlt _ q;exact absurd (Heap.lt_size e) (Nat.lt_irrefl _),Heap.get?_push_size _ hf⟩
noncomputable def int2 (f:Int→Int→M MV) (a b:MV):M MV:=aQc a fun x=>aQc b fun y=>f x y
theorem aj4.int2 {t:Value→Value→Sem Value}{p:Int→Int→Prop}{f:Int→Int→M MV}{r:Int→Int→MV} (hf:∀ {x y st Q E},f x y st Q E→p x y∧Q (r x y) st) (h:∀ x y tx ty,p x y→Res S (t (.int x tx) (.int y ty)) (r x y)):aj4 S d t (int2 f):=by
 intro cx A W st QM EM Q E a b u v hA R va vb hm hQ hE
 refine ajl (azn hm) fun x e6_ h1=>?_;subst e6_
 refine ajl (azn h1) fun y e0_ h2=>?_;subst e0_
 obtain ⟨t,rfl⟩:=aJn va;obtain ⟨t',rfl⟩:=aJn vb
 exact Res.sim (h x y _ _ (hf h2).1) hA R (hf h2).2 hQ
noncomputable def akc (a b:MV):M MV:=match a with
 | .int x=>aQc b fun y=>ret (.int (x + y))
 | .bytes x=>azR b fun y=>aqg (x.length + y.length≤16777216) (ret (.bytes (x++y)))
 | .list x=>bqa b fun y=>aqg (x.length + y.length≤10000) (ret (.list (x++y)))
 | _=>azk
inductive bZy:MV→MV→(MV→Prop)→Prop
 | int (x y Q) (h:Q (.int (x + y))):bZy (.int x) (.int y) Q
 | bytes (x y Q) (l:x.length + y.length≤16777216) (h:Q (.bytes (x++y))):bZy (.bytes x) (.bytes y) Q
 | list (x y Q) (l:x.length + y.length≤10000) (h:Q (.list (x++y))):bZy (.list x) (.list y) Q
theorem bQB {a b:MV}{st:MSt}{Q:MV→MSt→Prop}{E:Value→MSt→Prop} (h:akc a b st Q E):bZy a b fun r=>Q r st:=by
 cases a<;>first | exact h.elim | skip
 ·refine ajl (azn h) fun y e1_ h=>?_;subst e1_;exact .int _ _ _ h
 ·refine ajl (aql h) fun y e2_ r3_=>?_;subst e2_;obtain ⟨l,h⟩:=r3_;exact .bytes _ _ _ l h
 ·refine ajl (aV5 h) fun y e4_ r5_=>?_;subst e4_;obtain ⟨l,h⟩:=r5_;exact .list _ _ _ l h
theorem bzu {cx:Cx}{A:Around}{W:Wd}{st:MSt}{QM:MV→MSt→Prop}{Q:Value→Shared→Prop}{E:Value→Shared→Prop}{a b:List MV}{u v:Value} (hA:AOK cx d A) (R:Rel S cx W st) (va:VR S.w.params S.C W (.list a) u) (vb:VR S.w.params S.C W (.list b) v) (hlen:a.length + b.length≤10000) (hm:QM (.list (a++b)) st)
  (hQ:QOk S cx (VR S.w.params S.C) W QM Q):wpAny (model S.prog S.w) A (binaryOp .Add u v) Q E W.s:=by
 obtain ⟨x,us,_,hl1,hv1⟩:=aJa va
 obtain ⟨y,vs,_,hl2,hv2⟩:=aJa vb
 revert hl1;refine aJE fun q6_ g1 g2 n1 g3=>?_;obtain ⟨c1,d1,dt1,sl1⟩:=q6_
 revert hl2;refine aJE fun q0_ f1 f2 n2 f3=>?_;obtain ⟨c2,d2,dt2,sl2⟩:=q0_
 cases g2;cases g3;cases f2;cases f3
 refine concat_meets ⟨_,g1,rfl⟩ ⟨_,f1,rfl⟩ noFill_list_add seq_list_add PySem.F.slot_list_add PySem.F.entry_list_add (PySem.F.args_list_add_2 _ _)
  (list_addW x y us.toArray vs.toArray n1 n2 d1 d2 sl1 sl2 (by rw [List.size_toArray,List.size_toArray,VRs.length hv1,VRs.length hv2,sizeLine_eq];walk_at "O")) ⟨g1,f1,?_⟩
 rw [List.append_toArray]
 refine aQd (R.new (o:={ cls:=.type "list",data:=.seq (us++vs).toArray }) (k:=W.s.toks) rfl) fun l R' hn hg=>?_
 refine hQ _ _ _ _ l R' ?_ hm
 exact aZX ⟨_,us++vs,hn,⟨_,hg,rfl,0,rfl⟩,VRs.app (VRs.mono l _ _ hv1) (VRs.mono l _ _ hv2)⟩
theorem aj4.add:aj4 S d (binaryOp .Add) akc:=by
 intro cx A W st QM EM Q E a b u v hA R va vb hm hQ hE
 have hc:=bQB hm
 clear hm
 generalize hq:(fun r=>QM r st)=q at hc
 cases hc with
 | int x y _ h=>
  subst hq
  obtain ⟨t,rfl⟩:=aJn va;obtain ⟨t',rfl⟩:=aJn vb
  exact Res.sim (Res.same fun A s Q E _ _ _ h=>add_int (h _ _ fun W=>aZY)) hA R h hQ
 | bytes x y _ l h=>
  subst hq
  obtain ⟨t,rfl⟩:=ajz va;obtain ⟨t',rfl⟩:=ajz vb
  exact Res.sim (Res.same fun A s Q E _ _ _ h=>KBy.add_bytes (by simpa using l) fun t' k=>by
   rw [List.append_toArray];exact h _ _ fun W=>azA) hA R h hQ
 | list x y _ l h=>subst hq;exact bzu hA R va vb l h hQ
noncomputable def bvE:MV→MV→M MV:=int2 fun x y=>ret (.int (x - y))
theorem aj4.sub:aj4 S d (binaryOp .Sub) bvE:=aj4.int2 (p:=fun _ _=>True) (fun h=>⟨trivial,h⟩) fun x y _ _ _=>Res.same fun A s Q E _ _ _ h=>sub_int (h _ _ fun W=>aZY)
noncomputable def bkt:MV→MV→M MV:=int2 fun x y=>ret (.int (x + y))
theorem aj4.iadd:aj4 S d (inplaceOp .Add) bkt:=aj4.int2 (p:=fun _ _=>True) (fun h=>⟨trivial,h⟩) fun x y _ _ _=>Res.same fun A s Q E _ _ _ h=>iadd_int (h _ _ fun W=>aZY)
noncomputable def aJo (a b:MV):M MV:=aQc b fun y=>match a with
 | .int x=>aqg (Builtin.Int.intBits y≤64) (ret (.int (x * y)))
 | .bytes x=>aqg (x≠[]∧2≤y∧y≤1000∧x.length≤1000) (ret (.bytes (List.replicate y.toNat x).flatten))
 | _=>azk
theorem bQA {a b:MV}{st:MSt}{Q:MV→MSt→Prop}{E:Value→MSt→Prop} (h:aJo a b st Q E):∃ y,b = .int y∧((∃ x,a = .int x∧Builtin.Int.intBits y≤64∧Q (.int (x * y)) st)∨∃ x,a = .bytes x∧(x≠[]∧2≤y∧y≤1000∧x.length≤1000)∧Q (.bytes (List.replicate y.toNat x).flatten) st):=by
 refine ajl (azn h) fun y e1_ h=>?_;subst e1_
 refine ⟨y,rfl,?_⟩
 cases a<;>first | exact h.elim | skip
 ·exact .inl ⟨_,rfl,h⟩
 ·exact .inr ⟨_,rfl,h⟩
theorem aj4.mul:aj4 S d (binaryOp .Mult) aJo:=by
 intro cx A W st QM EM Q E a b u v hA R va vb hm hQ hE
 obtain ⟨y,rfl,⟨x,rfl,h1,h9⟩ | ⟨x,rfl,⟨h1,h2,h3,h4⟩,h9⟩⟩:=bQA hm
 ·obtain ⟨t,rfl⟩:=aJn va;obtain ⟨t',rfl⟩:=aJn vb
  exact Res.sim (Res.same fun A s Q E _ _ _ h=>mul_int (h _ _ fun W=>aZY) (IntMulOk.of_right h1)) hA R h9 hQ
 ·obtain ⟨t,rfl⟩:=ajz va;obtain ⟨t',rfl⟩:=aJn vb
  exact Res.sim (Res.same fun A s Q E _ _ _ h=>bytes_mul_K h1 h2 (by walk_at "O") (by
   have:x.length * y.toNat≤1000 * 1000:=Nat.mul_le_mul h4 (by walk_at "O")
   walk_at "O") rfl fun t' k=>h _ _ fun W=>azA) hA R h9 hQ
noncomputable def aXn:MV→MV→M MV:=int2 fun x y=>aqg (y≠0) (ret (.int (x.fmod y)))
theorem aj4.mod:aj4 S d (binaryOp .Mod) aXn:=aj4.int2 (p:=fun _ y=>y≠0) (fun h=>h) fun x y _ _ h0=>Res.same fun A s Q E _ _ _ h=>mod_int h0 (h _ _ fun W=>aZY)
noncomputable def mLt:MV→MV→M MV:=int2 fun x y=>ret (.bool (decide (x < y)))
theorem aj4.lt:aj4 S d (compareOp .Lt) mLt:=aj4.int2 (p:=fun _ _=>True) (fun h=>⟨trivial,h⟩) fun x y _ _ _=>Res.same fun A s Q E _ _ _ h=>lt_int (h _ _ fun W=>azP)
noncomputable def mLe:MV→MV→M MV:=int2 fun x y=>ret (.bool (decide (x≤y)))
theorem aj4.le':aj4 S d (compareOp .LtE) mLe:=aj4.int2 (p:=fun _ _=>True) (fun h=>⟨trivial,h⟩) fun x y _ _ _=>Res.same fun A s Q E _ _ _ h=>le_int (h _ _ fun W=>azP)
noncomputable def mGt:MV→MV→M MV:=int2 fun x y=>ret (.bool (decide (x > y)))
theorem aj4.gt:aj4 S d (compareOp .Gt) mGt:=aj4.int2 (p:=fun _ _=>True) (fun h=>⟨trivial,h⟩) fun x y _ _ _=>Res.same fun A s Q E _ _ _ h=>gt_int (h _ _ fun W=>azP)
end
end Mine
end
section
namespace Mine
open PySem PySem.W PyProof.Rows PySem.Calls
noncomputable abbrev Es:=List (List UInt8×MV)
noncomputable def aqr (es:Es) (k:List UInt8):Option MV:=(es.find? fun e=>e.1=k).map (·.2)
noncomputable def aXk (es:Es) (k:List UInt8) (v:MV):Es:=if es.any (fun e=>e.1=k) then es.map (fun e=>if e.1=k then (e.1,v) else e) else es++[(k,v)]
noncomputable def aXl (es:Es) (k:List UInt8):Es:=es.filter fun e=>decide (e.1≠k)
noncomputable abbrev ajn (es:Es):List (List UInt8):=es.map (·.1)
noncomputable def VRk (P:Params) (C:Addr) (W:Wd):Es→List (List UInt8×Value)→Prop
 | [],kvs=>kvs=[]
 | e::es,kvs=>∃ v r,kvs=(e.1,v)::r∧VR P C W e.2 v∧VRk P C W es r
section
variable {P:Params}{C:Addr}{W:Wd}{prog:Program}{w:World}
theorem VRk.mono {W':Wd} (l:Le W W'):∀ {es:Es}{kvs:List (List UInt8×Value)},VRk P C W es kvs→VRk P C W' es kvs
 | [],_,h=>h
 | e::es,_,⟨v,r,h1,h2,h3⟩=>⟨v,r,h1,VR.mono l _ _ h2,VRk.mono l h3⟩
theorem VRk.length:∀ {es:Es}{kvs:List (List UInt8×Value)},VRk P C W es kvs→kvs.length=es.length
 | [],_,h=>by rw [show _=[] from h];rfl
 | e::es,_,⟨v,r,h1,h2,h3⟩=>by rw [h1,List.length_cons,List.length_cons,VRk.length h3]
theorem VRk.keys:∀ {es:Es}{kvs:List (List UInt8×Value)},VRk P C W es kvs→kvs.map (·.1)=ajn es
 | [],_,h=>by rw [show _=[] from h];rfl
 | e::es,_,⟨v,r,h1,h2,h3⟩=>by rw [h1,List.map_cons,VRk.keys h3];rfl
theorem VRd.pairs:∀ {es:Es}{ds:List DictEntry},VRd w.params C W es ds→∃ kvs,PySem.Pairs (bytesKind prog w) ds kvs∧(∀ e∈ds,∃ k,(bytesKind prog w).is k e.key=true∧e.hash=(bytesKind prog w).hash k)∧VRk w.params C W es kvs
 | [],ds,h=>by
  subst h
  exact ⟨[],.nil,fun e he=>(nomatch he),rfl⟩
 | e::es,ds,h=>by
  revert h;refine aq2 fun x r e4_ r5_=>?_;subst e4_;obtain ⟨⟨t,h1,h2⟩,h3,h4⟩:=r5_
  refine aKb (VRd.pairs h4) fun kvs q1 q2 q3=>?_
  have hk:(bytesKind prog w).is e.1 x.key=true:=by rw [h2];exact bytesKind_is _ _ _ _
  refine ⟨(e.1,x.val)::kvs,.cons hk rfl q1,fun y hy=>?_,⟨_,_,rfl,h3,q3⟩⟩
  rcases List.mem_cons.mp hy with rfl | hy
  ·exact ⟨e.1,hk,h1⟩
  ·exact q2 y hy
theorem VRd.of_pairs:∀ {es:Es}{ds:List DictEntry}{kvs:List (List UInt8×Value)},PySem.Pairs (bytesKind prog w) ds kvs→(∀ e∈ds,∃ k,(bytesKind prog w).is k e.key=true∧e.hash=(bytesKind prog w).hash k)→VRk w.params C W es kvs→VRd w.params C W es ds
 | [],ds,kvs,h1,h2,h3=>by
  have:kvs=[]:=h3
  subst this
  cases h1
  rfl
 | e::es,ds,kvs,h1,h2,h3=>by
  revert h3;refine aq2 fun v r e6_ r0_=>?_;subst e6_;obtain ⟨h4,h5⟩:=r0_
  cases h1 with
  | @cons x _ ds' _ q1 q2 q3=>
   refine ajl (h2 x (.head _)) fun k z1 z2=>?_
   have hk:=(bytesKind prog w).inj _ _ _ z1 q1
   have hk':k=e.1:=hk
   subst hk'
   obtain ⟨t,ht⟩:=isBytes_shape q1
   refine ⟨x,ds',rfl,⟨t,z2,ht⟩,?_,VRd.of_pairs q3 (fun y hy=>h2 y (.tail _ hy)) h5⟩
   rw [q2];exact h4
theorem VRk.get:∀ {es:Es}{kvs:List (List UInt8×Value)} (k:List UInt8),VRk P C W es kvs→match aqr es k with | some mv=>∃ v,valueAt kvs k=some v∧VR P C W mv v | none=>valueAt kvs k=none
 | [],kvs,k,h=>by rw [show kvs=[] from h];rfl
 | e::es,kvs,k,⟨v,r,h1,h2,h3⟩=>by
  subst h1
  unfold aqr valueAt
  rw [List.find?_cons,List.find?_cons]
  by_cases hk:e.1=k
  ·simp only [hk,decide_true]
   exact ⟨v,rfl,h2⟩
  ·simp only [hk,decide_false]
   exact VRk.get k h3
theorem VRk.any:∀ {es:Es}{kvs:List (List UInt8×Value)} (k:List UInt8),VRk P C W es kvs→kvs.any (fun kv=>decide (kv.1=k))=es.any (fun e=>decide (e.1=k))
 | [],kvs,k,h=>by rw [show kvs=[] from h];rfl
 | e::es,kvs,k,⟨v,r,h1,h2,h3⟩=>by
  subst h1
  rw [List.any_cons,List.any_cons,VRk.any k h3]
theorem VRk.map:∀ {es:Es}{kvs:List (List UInt8×Value)} (k:List UInt8) {mv:MV}{v:Value},VRk P C W es kvs→VR P C W mv v→VRk P C W (es.map fun e=>if e.1=k then (e.1,mv) else e) (kvs.map fun kv=>if kv.1=k then (kv.1,v) else kv)
 | [],kvs,k,mv,v,h,hv=>by rw [show kvs=[] from h];rfl
 | e::es,kvs,k,mv,v,⟨u,r,h1,h2,h3⟩,hv=>by
  subst h1
  rw [List.map_cons,List.map_cons]
  by_cases hk:e.1=k
  ·simp only [hk,if_true]
   exact ⟨v,_,rfl,hv,VRk.map k h3 hv⟩
  ·simp only [hk,if_false]
   exact ⟨u,_,rfl,h2,VRk.map k h3 hv⟩
theorem VRk.app:∀ {es es':Es}{kvs kvs':List (List UInt8×Value)},VRk P C W es kvs→VRk P C W es' kvs'→VRk P C W (es++es') (kvs++kvs')
 | [],es',kvs,kvs',h,h'=>by rw [show kvs=[] from h];exact h'
 | e::es,es',kvs,kvs',⟨u,r,h1,h2,h3⟩,h'=>by
  subst h1
  exact ⟨u,_,rfl,h2,VRk.app h3 h'⟩
theorem VRk.set {es:Es}{kvs:List (List UInt8×Value)} (k:List UInt8) {mv:MV}{v:Value} (h:VRk P C W es kvs) (hv:VR P C W mv v):VRk P C W (aXk es k mv) (stored kvs k v):=by
 unfold aXk stored
 rw [VRk.any k h]
 split
 ·exact VRk.map k h hv
 ·exact VRk.app h ⟨v,[],rfl,hv,rfl⟩
theorem VRk.del:∀ {es:Es}{kvs:List (List UInt8×Value)} (k:List UInt8),VRk P C W es kvs→VRk P C W (aXl es k) (without kvs k)
 | [],kvs,k,h=>by rw [show kvs=[] from h];rfl
 | e::es,kvs,k,⟨u,r,h1,h2,h3⟩=>by
  subst h1
  have ih:=VRk.del k h3
  unfold aXl without at ih ⊢
  rw [List.filter_cons,List.filter_cons]
  by_cases hk:e.1=k
  ·simp only [hk,ne_eq,not_true_eq_false,decide_false,Bool.false_eq_true,if_false]
   exact ih
  ·simp only [hk,ne_eq,not_false_eq_true,decide_true,if_true]
   exact ⟨u,_,rfl,h2,ih⟩
end
section
variable {S:ajA}{g:Sig}{d:Nat}
theorem Rel.upd {cx:Cx}{W:Wd}{st:MSt}{i:Nat}{mo mo':MO}{a:Addr}{h':Heap}{tk:Nat}{o':Obj} (R:Rel S cx W st) (h1:st.objs[i]? = some mo) (h2:mo≠.dead) (hr:W.rho[i]? = some a) (hs:Heap.SameBut a W.s.heap h')
  (ho':h'.get? a=some o') (hnf:∀ vs,o'.data≠.fields vs) (hm:∀ W':Wd,Le W W'→W'.s.heap.get? a=some o'→MOR S W' mo' a) :
  Le W { W with s:={ W.s with heap:=h',toks:=tk } }∧Rel S cx { W with s:={ W.s with heap:=h',toks:=tk } } ⟨st.loc,st.objs.set i mo'⟩:=by
 obtain ⟨a',q1,q2,q3,q4,q5,q6⟩:=R.live i mo h1 h2
 obtain rfl:a=a':=Option.some.inj (hr.symm.trans q1)
 have keep:∀ b o,W.s.heap.get? b=some o→¬ W.D b→h'.get? b=some o:=fun b o e hd=>(hs.2 b fun q=>hd (q ▸ q2)).trans e
 have l:Le W { W with s:={ W.s with heap:=h',toks:=tk } }:=⟨fun b o e hd=>⟨keep b o e hd,hd⟩,List.prefix_refl _⟩
 have there:∀ b,(∃ o,W.s.heap.get? b=some o)→∃ o,h'.get? b=some o:=fun b ⟨o,e⟩=>by
  by_cases q:b=a
  ·subst q;exact ⟨_,ho'⟩
  ·exact ⟨o,(hs.2 b q).trans e⟩
 have hlt:i < st.objs.length:=(List.getElem?_eq_some_iff.mp h1).1
 have old:∀ {j:Nat}{m:MO},(st.objs.set i mo')[j]? = some m→(j=i∧m=mo')∨(j≠i∧st.objs[j]? = some m):=fun {j m} e=>by
  rw [List.getElem?_set] at e
  by_cases q:i=j
  ·subst q
   simp only [if_true,hlt] at e
   exact .inl ⟨rfl,(Option.some.inj e).symm⟩
  ·rw [if_neg q] at e;exact .inr ⟨Ne.symm q,e⟩
 refine ⟨l,{ stat:=R.stat,envok:=R.envok,stays:=fun b o e=>keep b o (R.stays b o e) (R.fresh b o e),fresh:=R.fresh,dlt:=fun b hb=>there b (R.dlt b hb),cur:=R.cur.step l R.cur.1 fun m hm=>hm.sameBut hs (Ne.symm q4),outs:=fun r hr=>(R.outs r hr).step l (R.outs r hr).1 fun m hm=>hm.sameBut hs (fun e=>q5 r hr e.symm),apart:=R.apart,nmnd:=R.nmnd,len:=by rw [List.length_set];exact R.len,rin:=fun b hb=>there b (R.rin b hb),live:=?_,inj:=?_,stk:=?_,stkD:=R.stkD,top:=R.top,topOK:=R.topOK,gens:=R.gens,os:=R.os,pins:=?_ }⟩
 ·intro j m e hn
  rcases old e with ⟨rfl,rfl⟩ | ⟨hji,e'⟩
  ·exact ⟨a,hr,q2,hm _ l ho',q4,q5,q6⟩
  ·obtain ⟨b,z1,z2,z3,z4,z5,z6⟩:=R.live j m e' hn
   have hba:b≠a:=fun q=>hji (R.inj j i a m mo e' hn h1 h2 (q ▸ z1) hr)
   exact ⟨b,z1,z2,z3.step l fun o e=>(hs.2 b hba).trans e,z4,z5,z6⟩
 ·intro j k b m m' e1 n1 e2 n2 r1 r2
  have lv:∀ {j:Nat}{m:MO},(st.objs.set i mo')[j]? = some m→m≠.dead→∃ m0,st.objs[j]? = some m0∧m0≠.dead:=fun {j m} e n=>by
   rcases old e with ⟨rfl,rfl⟩ | ⟨_,e'⟩
   ·exact ⟨mo,h1,h2⟩
   ·exact ⟨m,e',n⟩
  refine ajl (lv e1 n1) fun m1 x1 y1=>?_
  refine ajl (lv e2 n2) fun m2 x2 y2=>?_
  exact R.inj j k b m1 m2 x1 y1 x2 y2 r1 r2
 ·refine aqm (fun b o e hnf'=>?_) R.stk
  by_cases q:b=a
  ·subst q;exact ⟨_,ho',hnf⟩
  ·exact ⟨o,(hs.2 b q).trans e,hnf'⟩
 ·intro p hp
  refine aQd (R.pins p hp) fun z1 z2 z3 z4=>?_
  exact ⟨z1,(hs.2 _ fun q=>z3 (by rw [q];exact List.mem_of_getElem? hr)).trans z2,z3,z4⟩
noncomputable def ajZ (st:MSt):MV→Option Es
 | .dict es=>some es
 | .obj i=>match st.objs[i]? with | some (.dict es)=>some es | _=>none
 | _=>none
theorem bj5 {st:MSt}{i:Nat}{es:Es} (h:ajZ st (.obj i)=some es):st.objs[i]? = some (.dict es):=by
 revert h
 show (match st.objs[i]? with | some (.dict es)=>some es | _=>none)=_→_
 rcases st.objs[i]? with _ | (_ | _ | _ | es' | _)<;>intro h<;>cases h
 rfl
theorem aqv {cx:Cx}{W:Wd}{st:MSt}{a:MV}{u:Value}{es:Es} (R:Rel S cx W st) (hv:VR S.w.params S.C W a u) (h:ajZ st a=some es) (hnd:(ajn es).Nodup) :
  ∃ x kvs,u = .ref x∧(x == sysModules)=false∧W.s.heap.DictOf (bytesKind S.prog S.w) x kvs∧VRk S.w.params S.C W es kvs:=by
 have fin:∀ {x:Addr}{o:Obj}{ds:List DictEntry}{ep:Nat},W.s.heap.get? x=some o→o.ExactDict→o.data = .dict ds.toArray ep→VRd S.w.params S.C W es ds→
   ∃ kvs,W.s.heap.DictOf (bytesKind S.prog S.w) x kvs∧VRk S.w.params S.C W es kvs:=fun {x o ds ep} h1 h2 h3 h4=>by
  refine aKb (VRd.pairs (prog:=S.prog) h4) fun kvs q1 q2 q3=>?_
  exact ⟨kvs,⟨o,ds.toArray,ep,h1,h2,h3,fun e he=>q2 e (by simpa using he),by simpa using q1,by rw [q3.keys];exact hnd⟩,q3⟩
 cases a<;>first | (exfalso;cases h;done) | skip
 case dict es'=>
  cases h
  obtain ⟨x,o,ds,ep,_,h1,h2,h3,h4,h5⟩:=bk6 hv
  refine ajl (fin h2 h3 h4 h5) fun kvs q1 q2=>?_
  exact ⟨x,kvs,rfl,h1,q1,q2⟩
 case obj i=>
  obtain ⟨x,hx⟩:=bzH hv
  have he:=bj5 h
  obtain ⟨x',q1,q2,⟨ds,ep,q3,q4⟩,_⟩:=R.live i _ he (by intro q;cases q)
  obtain rfl:x=x':=Option.some.inj (hx.symm.trans q1)
  refine ajl (fin (x:=x) q3 ⟨rfl,rfl,rfl⟩ rfl q4) fun kvs z1 z2=>?_
  refine ⟨x,kvs,rfl,?_,z1,z2⟩
  cases hb:cx.base.get? x with
  | none=>exact R.sysNe hb
  | some o=>exact absurd q2 (R.fresh _ _ hb)
noncomputable def bkU (a k z:MV):M MV:=azR k fun k=>fun st Q E=>∃ es,ajZ st a=some es∧(ajn es).Nodup∧Q ((aqr es k).getD z) st
noncomputable def axe:List MV→M MV
 | [a,k]=>bkU a k .none
 | [a,k,z]=>bkU a k z
 | _=>azk
theorem bJe {a:MV}{k:List UInt8}{st:MSt}{Q:MV→MSt→Prop}{E:Value→MSt→Prop}:axe [a,.bytes k] st Q E = ∃ es,ajZ st a=some es∧(ajn es).Nodup∧Q ((aqr es k).getD .none) st:=rfl
theorem bJd {a z:MV}{k:List UInt8}{st:MSt}{Q:MV→MSt→Prop}{E:Value→MSt→Prop}:axe [a,.bytes k,z] st Q E = ∃ es,ajZ st a=some es∧(ajn es).Nodup∧Q ((aqr es k).getD z) st:=rfl
theorem bJc {as:List MV}{st:MSt}{Q:MV→MSt→Prop}{E:Value→MSt→Prop} (h:axe as st Q E):∃ a k z,(as=[a,.bytes k]∧z = .none∨as=[a,.bytes k,z])∧∃ es,ajZ st a=some es∧(ajn es).Nodup∧Q ((aqr es k).getD z) st:=by
 rcases as with _ | ⟨a,_ | ⟨k,_ | ⟨z,_ | ⟨y,r⟩⟩⟩⟩
 ·exact h.elim
 ·exact h.elim
 ·refine ajl (aql (show bkU a k .none st Q E from h)) fun k e1_ h1=>?_;subst e1_;exact ⟨a,k,_,.inl ⟨rfl,rfl⟩,h1⟩
 ·refine ajl (aql (show bkU a k z st Q E from h)) fun k e2_ h1=>?_;subst e2_;exact ⟨a,k,_,.inr rfl,h1⟩
 ·exact h.elim
theorem bKY {cx:Cx}{W:Wd}{es:Es}{k:List UInt8}{z:MV}{x:Value}{kvs:List (List UInt8×Value)} (hk:VRk S.w.params S.C W es kvs) (hz:VR S.w.params S.C W z x):VR S.w.params S.C W ((aqr es k).getD z) ((valueAt kvs k).getD x):=by
 have hg:=hk.get k
 cases hq:aqr es k with
 | some mv=>rw [hq] at hg;revert hg;refine azC fun w h1 h2=>?_;rw [h1];exact h2
 | none=>rw [hq] at hg;rw [hg];exact hz
theorem aj2.dictGet:aj2 S d (.builtin "dict.get") axe:=by
 intro cx A W st QM EM Q E as us hA R vas hm hQ hE
 refine bvt (bJc hm) fun a k z hc es r8_=>?_;revert r8_;refine bzF fun he hnd h9=>?_
 clear hm
 obtain ⟨l,R'⟩:=R.same (s':={ W.s with toks:=W.s.toks + 1 }) rfl rfl rfl
 rcases hc with ⟨rfl,rfl⟩ | rfl
 ·refine ajU (bxZ vas) fun u v e3_ r4_=>?_;subst e3_;obtain ⟨va,vb⟩:=r4_
  obtain ⟨t,rfl⟩:=ajz vb
  refine ajU (aqv R va he hnd) fun dd kvs e5_ r6_=>?_;subst e5_;obtain ⟨hs,hD,hk⟩:=r6_
  exact call_meetsIn PySem.F.slot_dict_get hD.typeIs PySem.F.entry_dict_get (PySem.F.args_dict_get_2 _ _) (meets_dict_get (bytesKind S.prog S.w) dd (bytesKind_is _ _ k t) hs) ⟨_,hD.mapOf,hQ _ _ _ _ l R' (VR.mono l _ _ (bKY (cx:=cx) hk aKW)) h9⟩
 ·refine av2 (bXe vas) fun u v x e0_ r1_=>?_;subst e0_;obtain ⟨va,vb,vc⟩:=r1_
  obtain ⟨t,rfl⟩:=ajz vb
  refine ajU (aqv R va he hnd) fun dd kvs e2_ r3_=>?_;subst e2_;obtain ⟨hs,hD,hk⟩:=r3_
  exact call_meetsIn PySem.F.slot_dict_get hD.typeIs PySem.F.entry_dict_get (PySem.F.args_dict_get_3 _ _ _) (meets_dict_get_default (bytesKind S.prog S.w) dd (bytesKind_is _ _ k t) hs x) ⟨_,hD.mapOf,hQ _ _ _ _ l R' (VR.mono l _ _ (bKY (cx:=cx) hk vc)) h9⟩
noncomputable def aVi (a:MV) (st:MSt):Prop:=∃ es,ajZ st a=some es∧(ajn es).Nodup
noncomputable def ax9 (a:MV) (st:MSt) (p:Prop):Prop:=aVi a st∧p
theorem ajH.dictGet:ajH S d "get" ax9 (.builtin "dict.get"):=by
 intro cx A W st a v pl Q E p hA R va ⟨⟨es,he,hnd⟩,hp⟩
 refine ⟨hp,fun h=>?_⟩
 refine ajU (aqv R va he hnd) fun dd kvs e4_ r5_=>?_;subst e4_;obtain ⟨hs,hD,hk⟩:=r5_
 exact getMethod_builtin hD.typeIs PySem.F.plainAttrs_dict PySem.F.slot_dict_get PySem.F.type_dict_get hD.mapOf.noDict h
theorem ajH.dictPop:ajH S d "pop" ax9 (.builtin "dict.pop"):=by
 intro cx A W st a v pl Q E p hA R va ⟨⟨es,he,hnd⟩,hp⟩
 refine ⟨hp,fun h=>?_⟩
 refine ajU (aqv R va he hnd) fun dd kvs e6_ r0_=>?_;subst e6_;obtain ⟨hs,hD,hk⟩:=r0_
 exact getMethod_builtin hD.typeIs PySem.F.plainAttrs_dict PySem.F.slot_dict_pop PySem.F.type_dict_pop hD.mapOf.noDict h
theorem ajH.dictKeys:ajH S d "keys" ax9 (.builtin "dict.keys"):=by
 intro cx A W st a v pl Q E p hA R va ⟨⟨es,he,hnd⟩,hp⟩
 refine ⟨hp,fun h=>?_⟩
 refine ajU (aqv R va he hnd) fun dd kvs e1_ r2_=>?_;subst e1_;obtain ⟨hs,hD,hk⟩:=r2_
 exact getMethod_builtin hD.typeIs PySem.F.plainAttrs_dict PySem.F.slot_dict_keys PySem.F.type_dict_keys hD.mapOf.noDict h
theorem Rel.dictNow {cx:Cx}{W:Wd}{st:MSt}{i:Nat}{es es':Es}{x:Addr}{h':Heap}{tk:Nat}{kvs':List (List UInt8×Value)} (R:Rel S cx W st) (h1:st.objs[i]? = some (.dict es)) (hr:W.rho[i]? = some x)
  (hs:Heap.SameBut x W.s.heap h') (hD:h'.DictOf (bytesKind S.prog S.w) x kvs') (hk:VRk S.w.params S.C W es' kvs') :
  Le W { W with s:={ W.s with heap:=h',toks:=tk } }∧Rel S cx { W with s:={ W.s with heap:=h',toks:=tk } } ⟨st.loc,st.objs.set i (.dict es')⟩:=by
 revert hD;refine akS fun o ds ep g1 g2 r8_=>?_;revert r8_;refine aZd fun g3 g4 g5 g6=>?_
 obtain ⟨oc,od,odt,osl⟩:=o
 revert g2;refine bzF fun z1 z2 z3=>?_
 simp only at z1 z2 z3 g3
 subst z1;subst z2;subst z3;subst g3
 refine R.upd h1 (by intro q;cases q) hr hs g1 (fun vs q=>by cases q) fun W' l e=>⟨ds.toList,ep,by rw [e],?_⟩
 exact VRd.of_pairs (prog:=S.prog) g5 (fun y hy=>g4 y (by simpa using hy)) (hk.mono l)
noncomputable def aQX (a b v:MV):M Unit:=bq9 a fun i=>azR b fun k=>fun st Q E=>∃ es,st.objs[i]? = some (.dict es)∧(ajn es).Nodup∧es.length≤1000∧Q () ⟨st.loc,st.objs.set i (.dict (aXk es k v))⟩
theorem bxO {i:Nat}{k:List UInt8}{v:MV}{st:MSt}{Q:Unit→MSt→Prop}{E:Value→MSt→Prop}:aQX (.obj i) (.bytes k) v st Q E = ∃ es,st.objs[i]? = some (.dict es)∧(ajn es).Nodup∧es.length≤1000∧Q () ⟨st.loc,st.objs.set i (.dict (aXk es k v))⟩:=rfl
theorem bQY {a b v:MV}{st:MSt}{Q:Unit→MSt→Prop}{E:Value→MSt→Prop} (h:aQX a b v st Q E):∃ i k es,a = .obj i∧b = .bytes k∧st.objs[i]? = some (.dict es)∧(ajn es).Nodup∧es.length≤1000∧Q () ⟨st.loc,st.objs.set i (.dict (aXk es k v))⟩:=by
 refine ajl (aZk h) fun i e3_ h1=>?_;subst e3_
 refine ajl (aql h1) fun k e4_ r5_=>?_;subst e4_;obtain ⟨es,h2⟩:=r5_
 exact ⟨i,k,es,rfl,rfl,h2⟩
theorem azb.dictSet:azb S d setItem aQX:=by
 intro cx A W st QM EM Q E a b c u v w hA R va vb vc hm hQ hE
 refine av2 (bQY hm) fun i k es e6_ r0_=>?_;subst e6_;obtain ⟨rfl,he,hnd,hlen,h9⟩:=r0_
 clear hm
 obtain ⟨t,rfl⟩:=ajz vb
 refine ajU (aqv (es:=es) R va (by dsimp only [ajZ];simp only [he]) hnd) fun dd kvs e1_ r2_=>?_;subst e1_;obtain ⟨hs,hD,hk⟩:=r2_
 obtain ⟨x,hx⟩:=bzH va
 refine wpAny_setItem_pairs (bytesKind_is _ _ _ t) hD (fun h' hm' hs'=>?_) (by rw [hk.length,sizeLine_eq];walk_at "O")
 obtain ⟨l,R'⟩:=R.dictNow (tk:=W.s.toks + 1) he hx hs' hm' (hk.set _ vc)
 exact hQ _ _ l R' h9
noncomputable def bJE:List MV→M MV:=bJw fun a b=>bq9 a fun i=>azR b fun k=>fun st Q E=>∃ es,st.objs[i]? = some (.dict es)∧(ajn es).Nodup∧es.length≤1000∧match aqr es k with
  | some v=>Q v ⟨st.loc,st.objs.set i (.dict (aXl es k))⟩
  | none=>E (.type "KeyError") st
theorem bQZ {i:Nat}{k:List UInt8}{st:MSt}{Q:MV→MSt→Prop}{E:Value→MSt→Prop}:bJE [.obj i,.bytes k] st Q E = ∃ es,st.objs[i]? = some (.dict es)∧(ajn es).Nodup∧es.length≤1000∧match aqr es k with
  | some v=>Q v ⟨st.loc,st.objs.set i (.dict (aXl es k))⟩
  | none=>E (.type "KeyError") st:=rfl
theorem bZ0 {as:List MV}{st:MSt}{Q:MV→MSt→Prop}{E:Value→MSt→Prop} (h:bJE as st Q E):∃ i k es,as=[.obj i,.bytes k]∧st.objs[i]? = some (.dict es)∧(ajn es).Nodup∧es.length≤1000∧match aqr es k with
  | some v=>Q v ⟨st.loc,st.objs.set i (.dict (aXl es k))⟩
  | none=>E (.type "KeyError") st:=by
 refine ajU (aZ0 h) fun a b e3_ h0=>?_;subst e3_
 refine ajl (aZk h0) fun i e4_ h1=>?_;subst e4_
 refine ajl (aql h1) fun k e5_ r6_=>?_;subst e5_;obtain ⟨es,h2⟩:=r6_
 exact ⟨i,k,es,rfl,h2⟩
theorem aj2.dictPop:aj2 S d (.builtin "dict.pop") bJE:=by
 intro cx A W st QM EM Q E as us hA R vas hm hQ hE
 refine av2 (bZ0 hm) fun i k es e0_ r1_=>?_;subst e0_;obtain ⟨he,hnd,hlen,h9⟩:=r1_
 clear hm
 refine ajU (bxZ vas) fun u v e2_ r3_=>?_;subst e2_;obtain ⟨va,vb⟩:=r3_
 obtain ⟨t,rfl⟩:=ajz vb
 refine ajU (aqv (es:=es) R va (by dsimp only [ajZ];simp only [he]) hnd) fun dd kvs e4_ r5_=>?_;subst e4_;obtain ⟨hs,hD,hk⟩:=r5_
 obtain ⟨x,hx⟩:=bzH va
 have hg:=hk.get k
 cases hq:aqr es k with
 | some mv=>
  rw [hq] at hg h9
  revert hg;refine azC fun w h1 h2=>?_
  refine call_meetsIn PySem.F.slot_dict_pop hD.typeIs PySem.F.entry_dict_pop (PySem.F.args_dict_pop_2 _ _) (meets_dict_pop_there (bytesKind S.prog S.w) _ (bytesKind_is _ _ k t) [] (.inl rfl) rfl) ⟨kvs,w,hD,by rw [hk.length,sizeLine_eq];walk_at "O",h1,fun h' hm' hs'=>?_⟩
  obtain ⟨l,R'⟩:=R.dictNow (tk:=W.s.toks + 1) he hx hs' hm' (hk.del k)
  exact hQ _ _ _ _ l R' (VR.mono l _ _ h2) h9
 | none=>
  rw [hq] at hg h9
  refine call_meetsIn PySem.F.slot_dict_pop hD.typeIs PySem.F.entry_dict_pop (PySem.F.args_dict_pop_2 _ _) (meets_dict_pop_missing (bytesKind S.prog S.w) _ (bytesKind_is _ _ k t) hs rfl) ⟨hA.handled,kvs,hD,hg,fun h' e hx=>?_⟩
  exact hE W st e _ _ (Le.refl W) R (Fly.ofNew hx) h9
end
end Mine
end
section
set_option genSizeOf false
set_option genInjectivity false
namespace Mine
open PySem PySem.W PyProof.Rows PySem.Calls
section
variable {S:ajA}{g:Sig}{d:Nat}
noncomputable def aj3:MV→M Bool
 | .none=>ret false
 | .bool b=>ret b
 | .int i=>ret (decide (i≠0))
 | .bytes b=>aqg (b.length≤1099511627776) (ret (decide (b≠[])))
 | _=>azk
theorem bkn {a:MV}{st:MSt}{Q:Bool→MSt→Prop}{E:Value→MSt→Prop} (h:aj3 a st Q E):(a = .none∧Q false st)∨(∃ b,a = .bool b∧Q b st)∨(∃ i,a = .int i∧Q (decide (i≠0)) st)∨∃ b,a = .bytes b∧b.length≤1099511627776∧Q (decide (b≠[])) st:=by
 cases a<;>first | exact h.elim | skip
 ·exact .inl ⟨rfl,h⟩
 ·exact .inr (.inl ⟨_,rfl,h⟩)
 ·exact .inr (.inr (.inl ⟨_,rfl,h⟩))
 ·exact .inr (.inr (.inr ⟨_,rfl,h⟩))
theorem TB.truth:TB S d aj3:=by
 intro cx A W st QM EM Q E a u hA R va hm hQ hE
 rcases bkn hm with ⟨rfl,h9⟩ | ⟨b,rfl,h9⟩ | ⟨i,rfl,h9⟩ | ⟨b,rfl,hl,h9⟩<;>clear hm
 ·rw [aK7 va]
  exact fun _ _ _=>hQ W st _ _ (Le.refl W) R rfl h9
 ·rw [bjX va]
  exact wpAny_truthy_bool (hQ W st _ _ (Le.refl W) R rfl h9)
 ·obtain ⟨t,rfl⟩:=aJn va
  refine truthy_int (hQ W st _ _ (Le.refl W) R ?_ h9)
  by_cases h:i=0<;>simp [h]
 ·obtain ⟨t,rfl⟩:=ajz va
  obtain ⟨l,R'⟩:=R.same (s':={ W.s with toks:=W.s.toks + 1 + 1 }) rfl rfl rfl
  refine truthy_bytes (by simpa using hl) (hQ _ _ _ _ l R' ?_ h9)
  cases b with
  | nil=>rfl
  | cons c r=>exact (decide_eq_true (by show r.length + 1≠0;walk_at "O")).symm
noncomputable def azu (a b:MV):M MV:=fun st Q _=>bV a (cond (isN b) (Q (.bool (isN a)) st) False)
noncomputable def ajI (a b:MV):M MV:=fun st Q _=>bV a (cond (isN b) (Q (.bool (!isN a)) st) False)
theorem bxF {b:MV}{p:Prop} (h:cond (isN b) p False):b = .none∧p:=by
 cases hb:isN b with
 | false=>rw [hb] at h;exact h.elim
 | true=>rw [hb] at h;exact ⟨bQL hb,h⟩
theorem VR.noneIff {P:Params}{C:Addr}{W:Wd}{a:MV}{v:Value} (h:VR P C W a v):(v == .none)=isN a:=by
 cases a
 case unb=>exact h.elim
 case none=>cases aK7 h;rfl
 case list=>cases aJa h;rfl
 case tup=>cases bzG h;rfl
 case dict=>cases bk6 h;rfl
 case set=>cases bZO h;rfl
 case refs=>cases bQ8 h;rfl
 case obj=>cases bzH h;rfl
 case int=>obtain ⟨t,rfl⟩:=aJn h;rfl
 case bytes=>obtain ⟨t,rfl⟩:=ajz h;rfl
 case str=>obtain ⟨t,rfl⟩:=bZj h;rfl
 all_goals (subst h;rfl)
theorem aj4.isNone:aj4 S d (compareOp .Is) azu:=by
 intro cx A W st QM EM Q E a b u v hA R va vb hm hQ hE
 obtain ⟨hb,hq⟩:=bxF (bJF hm).2
 subst hb
 rw [aK7 vb]
 exact is_none_gen (hQ W st _ _ (Le.refl W) R (by rw [VR.noneIff va];exact azP) hq)
theorem aj4.isNotNone:aj4 S d (compareOp .IsNot) ajI:=by
 intro cx A W st QM EM Q E a b u v hA R va vb hm hQ hE
 obtain ⟨hb,hq⟩:=bxF (bJF hm).2
 subst hb
 rw [aK7 vb]
 refine isNot_none (hQ W st _ _ (Le.refl W) R ?_ hq)
 rw [VR.noneIff va]
 exact azP
theorem bxv {b:Bool}{x:Option Bool}{p:Bool→Prop} (h:aXd (cond b x none) p):b=true∧∃ r,x=some r∧p r:=by
 cases b with
 | false=>exact h.elim
 | true=>exact ⟨rfl,akW h⟩
noncomputable def mEq (a b:MV):M MV:=fun st Q _=>aXd (cond (Nat.ble (mvD a) 8) (aVb a b) none) fun r=>Q (.bool r) st
noncomputable def mNe (a b:MV):M MV:=fun st Q _=>aXd (cond (Nat.ble (mvD a) 8) (aVb a b) none) fun r=>Q (.bool (!r)) st
theorem aj4.eq:aj4 S d (compareOp .Eq) mEq:=by
 intro cx A W st QM EM Q E a b u v hA R va vb hm hQ hE
 refine ak1 (bxv hm) fun hd r h hm=>?_
 have hd:=Nat.le_of_ble_eq_true hd
 have hu:=hA.units
 exact (bqm _ a b u v r A (Nat.lt_succ_self _) va vb h (by walk_at "O")).1.rc _ _ _ _ (hQ W st _ _ (Le.refl W) R azP hm)
theorem aj4.ne:aj4 S d (compareOp .NotEq) mNe:=by
 intro cx A W st QM EM Q E a b u v hA R va vb hm hQ hE
 refine ak1 (bxv hm) fun hd r h hm=>?_
 have hd:=Nat.le_of_ble_eq_true hd
 have hu:=hA.units
 exact (bqm _ a b u v r A (Nat.lt_succ_self _) va vb h (by walk_at "O")).1.ne _ _ _ _ (hQ W st _ _ (Le.refl W) R azP hm)
noncomputable def axa (i:Int):List MV→Option Bool
 | []=>some false
 | x::r=>(aQn x).bind fun j=>(axa i r).map fun b=>(j == i) || b
noncomputable def akw (i:List UInt8):List MV→Option Bool
 | []=>some false
 | x::r=>(axR x).bind fun j=>(akw i r).map fun b=>(j == i) || b
noncomputable def bQT (i:Int):Value→Bool
 | .int j _=>j == i
 | _=>false
noncomputable def avY (i:List UInt8):Value→Bool
 | .bytes j _=>j.toList == i
 | _=>false
theorem bqI {P:Params}{C:Addr}{W:Wd}{A:Around}{s:Shared}{i:Int}{t:Tok}:∀ {xs:List MV}{vs:List Value}{r:Bool},VRs P C W xs vs→axa i xs=some r→(∀ y∈vs,SeqAt.EqAt A s y (.int i t) (bQT i y))∧vs.any (bQT i)=r
 | [],vs,r,h,e=>by subst h;cases e;exact ⟨fun y hy=>absurd hy (by simp),rfl⟩
 | x::xs,vs,r,h,e=>by
  revert h;refine aq2 fun v q e6_ r0_=>?_;subst e6_;obtain ⟨hx,hxs⟩:=r0_
  refine ajl (Option.bind_eq_some_iff.mp (show (aQn x).bind _=_ from e)) fun j e1 e=>?_
  cases aZN e1
  obtain ⟨t',rfl⟩:=aJn hx
  refine ajl (Option.map_eq_some_iff.mp e) fun b hr e1_=>?_;subst e1_
  obtain ⟨h1,h2⟩:=bqI (A:=A) (s:=s) (t:=t) hxs hr
  refine ⟨fun y hy=>?_,by rw [List.any_cons,h2];rfl⟩
  rcases List.mem_cons.mp hy with rfl | hy
  ·exact SeqAt.EqAt.int_int _ _ _ _
  ·exact h1 y hy
theorem aZI {P:Params}{C:Addr}{W:Wd}{A:Around}{s:Shared}{i:List UInt8}{t:Tok}:∀ {xs:List MV}{vs:List Value}{r:Bool},VRs P C W xs vs→akw i xs=some r→(∀ y∈vs,SeqAt.EqAt A s y (.bytes i.toArray t) (avY i y))∧vs.any (avY i)=r
 | [],vs,r,h,e=>by subst h;cases e;exact ⟨fun y hy=>absurd hy (by simp),rfl⟩
 | x::xs,vs,r,h,e=>by
  revert h;refine aq2 fun v q e2_ r3_=>?_;subst e2_;obtain ⟨hx,hxs⟩:=r3_
  refine ajl (Option.bind_eq_some_iff.mp (show (axR x).bind _=_ from e)) fun j e1 e=>?_
  cases aQ1 e1
  obtain ⟨t',rfl⟩:=ajz hx
  refine ajl (Option.map_eq_some_iff.mp e) fun b hr e4_=>?_;subst e4_
  obtain ⟨h1,h2⟩:=aZI (A:=A) (s:=s) (t:=t) hxs hr
  refine ⟨fun y hy=>?_,by rw [List.any_cons,h2];rfl⟩
  rcases List.mem_cons.mp hy with rfl | hy
  ·exact EqAt.bytes _ _ _ _ _ _
  ·exact h1 y hy
noncomputable def bQN (i:Int):MV→Option Bool
 | .bytes b=>if 0≤i∧i < 256 then some (b.contains i.toNat.toUInt8) else none
 | .tup xs=>axa i xs
 | _=>none
noncomputable def bqO (st:MSt) (k:List UInt8):MV→Option Bool
 | .bytes b=>some (bIn k b)
 | .tup xs=>akw k xs
 | .list xs=>akw k xs
 | .dict es=>if (ajn es).Nodup then some (aqr es k).isSome else none
 | .obj i=>match st.objs[i]? with | some (.dict es)=>if (ajn es).Nodup then some (aqr es k).isSome else none | _=>none
 | _=>none
noncomputable def inV (st:MSt):MV→MV→Option Bool
 | .int i=>bQN i
 | .bytes k=>bqO st k
 | _=>fun _=>none
noncomputable def mIn (a b:MV):M MV:=fun st Q _=>aXd (inV st a b) fun r=>Q (.bool r) st
noncomputable def ax6 (a b:MV):M MV:=fun st Q _=>aXd (inV st a b) fun r=>Q (.bool (!r)) st
inductive InC (st:MSt):MV→MV→Bool→Prop
 | bb (c b):InC st (.bytes c) (.bytes b) (bIn c b)
 | ib (i b) (h:0≤i∧i < 256):InC st (.int i) (.bytes b) (b.contains i.toNat.toUInt8)
 | it (i xs r) (h:axa i xs=some r):InC st (.int i) (.tup xs) r
 | bt (k xs r) (h:akw k xs=some r):InC st (.bytes k) (.tup xs) r
 | bl (k xs r) (h:akw k xs=some r):InC st (.bytes k) (.list xs) r
 | bd (k b es) (h:ajZ st b=some es) (hn:(ajn es).Nodup):InC st (.bytes k) b (aqr es k).isSome
theorem aZB {p:Prop} [Decidable p] {a r:Bool} (h:(if p then some a else none)=some r):p∧a=r:=by
 by_cases hp:p
 ·rw [if_pos hp] at h;exact ⟨hp,Option.some.inj h⟩
 ·rw [if_neg hp] at h;cases h
theorem bvW {st:MSt}{i:Int}{b:MV}{r:Bool} (h:bQN i b=some r):InC st (.int i) b r:=by
 cases b<;>first | (cases h;done) | skip
 ·obtain ⟨h1,rfl⟩:=aZB h;exact .ib _ _ h1
 ·exact .it _ _ _ h
theorem bqN {st:MSt}{k:List UInt8}{b:MV}{r:Bool} (h:bqO st k b=some r):InC st (.bytes k) b r:=by
 cases b<;>first | (cases h;done) | skip
 ·cases h;exact .bb _ _
 ·exact .bl _ _ _ h
 ·exact .bt _ _ _ h
 ·obtain ⟨h1,rfl⟩:=aZB h;exact .bd _ _ _ rfl h1
 ·rename_i i
  revert h
  show (match st.objs[i]? with | some (.dict es)=>if (ajn es).Nodup then some (aqr es k).isSome else none | _=>none)=_→_
  cases ho:st.objs[i]? with
  | none=>intro h;cases h
  | some o=>
   cases o<;>intro h<;>first | (cases h;done) | skip
   obtain ⟨h1,rfl⟩:=aZB h
   exact .bd _ _ _ (by dsimp only [ajZ];simp only [ho]) h1
theorem bKq {st:MSt}{a b:MV}{r:Bool} (h:inV st a b=some r):InC st a b r:=by
 cases a<;>first | (cases h;done) | skip
 ·exact bvW h
 ·exact bqN h
theorem bqL {cx:Cx}{A:Around}{W:Wd}{st:MSt}{a b:MV}{u v:Value}{r:Bool} (hA:AOK cx d A) (R:Rel S cx W st) (va:VR S.w.params S.C W a u) (vb:VR S.w.params S.C W b v) (h:inV st a b=some r) (f:Bool→Bool) (op:CmpOp) (hop:(op = .In∧∀ x,f x=x)∨(op = .NotIn∧∀ x,f x = !x))
  {Q:Value→Shared→Prop}{E:Value→Shared→Prop} (hQ:∀ W',Le W W'→Rel S cx W' st→Q (.bool (f r)) W'.s):wpAny (model S.prog S.w) A (compareOp op u v) Q E W.s:=by
 have hh:=hA.handled
 have heap:∀ (h':Heap) (k:Nat),(∀ b o,W.s.heap.get? b=some o→h'.get? b=some o)→Q (.bool (f r)) { W.s with heap:=h',toks:=k }:=fun h' k hk=>by
  obtain ⟨l,R'⟩:=R.keeps (s':={ W.s with heap:=h',toks:=k }) hk R.gens rfl
  exact hQ _ l R'
 have here:Q (.bool (f r)) W.s:=hQ W (Le.refl W) R
 have dct:∀ {es:Es}{k:List UInt8}{t:Tok}{x:Addr}{kvs:List (List UInt8×Value)},(x == sysModules)=false→W.s.heap.DictOf (bytesKind S.prog S.w) x kvs→VRk S.w.params S.C W es kvs→(aqr es k).isSome=r→
   wpAny (model S.prog S.w) A (compareOp op (.bytes k.toArray t) (.ref x)) Q E W.s:=fun {es k t x kvs} h1 h2 h3 h4=>by
  have e:(valueAt kvs k).isSome=r:=by
   rw [← h4]
   have:=h3.get k
   cases hq:aqr es k with
   | some mv=>rw [hq] at this;revert this;refine azC fun w h1 h2=>?_;rw [h1];rfl
   | none=>rw [hq] at this;rw [this];rfl
  rcases hop with ⟨rfl,hf⟩ | ⟨rfl,hf⟩
  ·refine wpAny_in_of (bytesKind_is _ _ k t) h1 h2.mapOf ?_
   have:=heap W.s.heap (W.s.toks + 1) (fun _ _ e=>e);rw [hf] at this;rw [e];exact this
  ·refine wpAny_notIn_of (bytesKind_is _ _ k t) h1 h2.mapOf ?_
   have:=heap W.s.heap (W.s.toks + 1) (fun _ _ e=>e);rw [hf] at this;rw [e];exact this
 have hc:=bKq h
 clear h
 cases hc with
 | bb c b=>
  obtain ⟨t,rfl⟩:=ajz va;obtain ⟨t',rfl⟩:=ajz vb
  rcases hop with ⟨rfl,hf⟩ | ⟨rfl,hf⟩
  ·exact SeqRoads2.in_meets (typeIs_bytes _ _ _) FB.slot_bytes_contains FB.entry_bytes_contains (FB.args_bytes_contains_2 _ _) (azE b c) ⟨hh,fun h' k hk=>⟨_,rfl,by have:=heap h' k hk;rw [hf] at this;exact this⟩⟩
  ·exact SeqRoads2.notIn_meets (typeIs_bytes _ _ _) FB.slot_bytes_contains FB.entry_bytes_contains (FB.args_bytes_contains_2 _ _) (azE b c) ⟨hh,fun h' k hk=>⟨_,rfl,by have:=heap h' k hk;rw [hf] at this;exact this⟩⟩
 | ib i b hi=>
  obtain ⟨t,rfl⟩:=aJn va;obtain ⟨t',rfl⟩:=ajz vb
  rcases hop with ⟨rfl,hf⟩ | ⟨rfl,hf⟩
  ·exact in_gives (typeIs_bytes _ _ _) FB.slot_bytes_contains FB.entry_bytes_contains (FB.args_bytes_contains_2 _ _) (azL b i hi.1 hi.2) (by rw [hf] at here;exact here)
  ·exact notIn_gives (typeIs_bytes _ _ _) FB.slot_bytes_contains FB.entry_bytes_contains (FB.args_bytes_contains_2 _ _) (azL b i hi.1 hi.2) (by rw [hf] at here;exact here)
 | it i xs _ h=>
  obtain ⟨t,rfl⟩:=aJn va
  obtain ⟨x,vs,_,hl,hv⟩:=bzG vb
  obtain ⟨h1,h2⟩:=bqI (A:=A.in1) (s:=W.s) (t:=t) hv h
  have h3:vs.toArray.any (bQT i)=r:=by rw [← h2];simp
  rcases hop with ⟨rfl,hf⟩ | ⟨rfl,hf⟩
  ·exact SeqAt.in_tupleAt (bQT i) hl (fun y hy=>h1 y (by simpa using hy)) (by rw [h3];rw [hf] at here;exact here)
  ·exact SeqAt.notIn_tupleAt (bQT i) hl (fun y hy=>h1 y (by simpa using hy)) (by rw [h3];rw [hf] at here;exact here)
 | bt i xs _ h=>
  obtain ⟨t,rfl⟩:=ajz va
  obtain ⟨x,vs,_,hl,hv⟩:=bzG vb
  obtain ⟨h1,h2⟩:=aZI (A:=A.in1) (s:=W.s) (t:=t) hv h
  have h3:vs.toArray.any (avY i)=r:=by rw [← h2];simp
  rcases hop with ⟨rfl,hf⟩ | ⟨rfl,hf⟩
  ·exact SeqAt.in_tupleAt (avY i) hl (fun y hy=>h1 y (by simpa using hy)) (by rw [h3];rw [hf] at here;exact here)
  ·exact SeqAt.notIn_tupleAt (avY i) hl (fun y hy=>h1 y (by simpa using hy)) (by rw [h3];rw [hf] at here;exact here)
 | bl i xs _ h=>
  obtain ⟨t,rfl⟩:=ajz va
  obtain ⟨x,vs,_,hl,hv⟩:=aJa vb
  obtain ⟨h1,h2⟩:=aZI (A:=A.in1) (s:=W.s) (t:=t) hv h
  have h3:vs.toArray.any (avY i)=r:=by rw [← h2];simp
  rcases hop with ⟨rfl,hf⟩ | ⟨rfl,hf⟩
  ·exact SeqAt.in_listAt (avY i) hl (fun y hy=>h1 y (by simpa using hy)) (by rw [h3];rw [hf] at here;exact here)
  ·exact SeqAt.notIn_listAt (avY i) hl (fun y hy=>h1 y (by simpa using hy)) (by rw [h3];rw [hf] at here;exact here)
 | bd k _ es hd hnd=>
  obtain ⟨t,rfl⟩:=ajz va
  refine ajU (aqv (es:=es) R vb hd hnd) fun x kvs e5_ r6_=>?_;subst e5_;obtain ⟨h1,h2,h3⟩:=r6_
  exact dct h1 h2 h3 rfl
theorem aj4.isIn:aj4 S d (compareOp .In) mIn:=by
 intro cx A W st QM EM Q E a b u v hA R va vb hm hQ hE
 refine ajl (akW hm) fun r h hm=>?_
 exact bqL hA R va vb h id .In (.inl ⟨rfl,fun _=>rfl⟩) fun W' l R'=>hQ W' st _ _ l R' azP hm
theorem aj4.notIn:aj4 S d (compareOp .NotIn) ax6:=by
 intro cx A W st QM EM Q E a b u v hA R va vb hm hQ hE
 refine ajl (akW hm) fun r h hm=>?_
 exact bqL hA R va vb h (fun x=>!x) .NotIn (.inr ⟨rfl,fun _=>rfl⟩) fun W' l R'=>hQ W' st _ _ l R' azP hm
end
end Mine
end
section
namespace Mine
open PySem PySem.W PyProof.Rows PySem.Calls
section
variable {S:ajA}{g:Sig}{d:Nat}
theorem aVF {prog:Program}{w:World}{A:Around}{E:Value→Shared→Prop}{s:Shared}{value slice:Expr}{o i:Value}{ops:List Value}{T id:String}{Q:Value→Shared→Prop} (hT:s.TypeIs o T)
  (hl:typeLookup (.type T) "__getitem__" = pure (some (.builtin id))) (h:wpAny (model prog w) A (getItem o i) Q E s) (hs:subscripted slice false o i=operate ops (getItem o i)) :
  wpAny (model prog w) A (subscriptTail value slice o i) Q E s:=by
 refine wpAny_bind ?_
 rw [getitemInPython_of_ne hT.not_modules]
 refine wpAny_bind (wpAny_specialOf hT hl ?_)
 have fin:wpAny (model prog w) A (subscripted slice false o i) (fun r s₃=>wpAny (model prog w) A (letTemporaryGo value o r>>=fun _=>pure r) Q E s₃) E s:=by
  rw [hs]
  exact wpAny_operating (wpAny_mono h (fun r s₃ h₃=>wpAny_bind (wpAny_letTemporaryGo (wpAny_pure h₃))) fun _ _ x=>x)
 first
  | exact wpAny_pure (wpAny_bind fin)
  | exact wpAny_bind (wpAny_pure (wpAny_bind fin))
  | exact wpAny_bind fin
noncomputable def aZp (e:Expr):Bool:=!(e.ctorIdx == 26)
theorem aqE {e:Expr}{o i:Value} (h:aZp e=true):subscripted e false o i=operate [o,i] (getItem o i):=by
 cases e<;>first | rfl | cases h
noncomputable def bAt (b:List UInt8) (i:Int):Option UInt8:=(seqIndex? i b.length).bind (b[·]?)
noncomputable def lAt (b:List MV) (i:Int):Option MV:=(seqIndex? i b.length).bind (b[·]?)
noncomputable def bqr:MV→Int→M MV
 | .bytes b,i=>fun st Q _=>∃ c,bAt b i=some c∧b.length≤1099511627776∧Q (.int (c.toNat:Int)) st
 | .list b,i=>fun st Q _=>∃ c,lAt b i=some c∧b.length≤10000∧Q c st
 | .tup b,i=>fun st Q _=>∃ c,lAt b i=some c∧b.length≤10000∧Q c st
 | _,_=>azk
noncomputable def ajG (a b:MV):M MV:=match b with
 | .int i=>bqr a i
 | .bytes k=>fun st Q _=>∃ es c,ajZ st a=some es∧(ajn es).Nodup∧aqr es k=some c∧Q c st
 | _=>azk
theorem bks {a:MV}{i:Int}{st:MSt}{Q:MV→MSt→Prop}{E:Value→MSt→Prop} (h:bqr a i st Q E):(∃ b c,a = .bytes b∧bAt b i=some c∧b.length≤1099511627776∧Q (.int (c.toNat:Int)) st)∨(∃ b c,(a = .list b∨a = .tup b)∧lAt b i=some c∧b.length≤10000∧Q c st):=by
 cases a<;>first | exact h.elim | skip
 ·revert h;refine azC fun c h1 h2=>?_;exact .inl ⟨_,c,rfl,h1,h2⟩
 ·revert h;refine azC fun c h1 h2=>?_;exact .inr ⟨_,c,.inl rfl,h1,h2⟩
 ·revert h;refine azC fun c h1 h2=>?_;exact .inr ⟨_,c,.inr rfl,h1,h2⟩
theorem bvG {a b:MV}{st:MSt}{Q:MV→MSt→Prop}{E:Value→MSt→Prop} (h:ajG a b st Q E):(∃ i,b = .int i∧bqr a i st Q E)∨∃ k es c,b = .bytes k∧ajZ st a=some es∧(ajn es).Nodup∧aqr es k=some c∧Q c st:=by
 cases b<;>first | exact h.elim | skip
 ·exact .inl ⟨_,rfl,h⟩
 ·revert h;refine r_EE fun es c h=>?_;exact .inr ⟨_,es,c,rfl,h⟩
theorem axX {i:Int}{n j:Nat} (h:seqIndex? i n=some j):j < n∧((0≤i∧i < n∧j=i.toNat)∨(i < 0∧-(n:Int)≤i∧j=(i + n).toNat)):=by
 unfold seqIndex? at h
 by_cases h0:i < 0
 ·simp only [h0,if_true] at h
  split at h
  ·rename_i hc
   simp at hc
   cases h
   refine ⟨by walk_at "O",.inr ⟨h0,by walk_at "O",rfl⟩⟩
  ·cases h
 ·simp only [h0,if_false] at h
  split at h
  ·rename_i hc
   simp at hc
   cases h
   refine ⟨by walk_at "O",.inl ⟨by walk_at "O",by walk_at "O",rfl⟩⟩
  ·cases h
theorem aj4.item {prog:Program}{w:World}{A:Around}{E:Value→Shared→Prop}{Q:Value→Shared→Prop}{value slice:Expr} (hns:aZp slice=true) :
  aj4 S d (subscriptTail value slice) ajG:=by
 intro cx A W st QM EM Q E a b u v hA R va vb hm hQ hE
 rcases bvG hm with ⟨i,rfl,h0⟩ | ⟨k,es,c,rfl,h1,h2,h3,h4⟩<;>clear hm
 ·obtain ⟨t',rfl⟩:=aJn vb
  rcases bks h0 with ⟨b,c,rfl,h1,h2,h9⟩ | ⟨b,c,ha,h1,h2,h9⟩<;>clear h0
  ·obtain ⟨t,rfl⟩:=ajz va
   refine ajl (Option.bind_eq_some_iff.mp h1) fun j hj h1=>?_
   obtain ⟨hjn,hij⟩:=axX hj
   have hfit:Builtin.Bytes.fitsIndex i=true:=by
    simp only [Builtin.Bytes.fitsIndex,Bool.and_eq_true,decide_eq_true_eq]
    rcases hij with ⟨_,_,_⟩ | ⟨_,_,_⟩<;>walk_at "O"
   refine aVF (typeIs_bytes _ _ _) FB.slot_bytes_getitem.lookup ?_ (aqE hns)
   refine getItem_gives (typeIs_bytes _ _ t) (by decide) FB.slot_bytes_getitem FB.entry_bytes_getitem (FB.args_bytes_getitem_2 _ _) (gives_bytes_getitem _ i t t' c hfit ?_) ?_
   ·rw [List.size_toArray,hj];simpa using h1
   ·obtain ⟨l,R'⟩:=R.same (s':={ W.s with toks:=W.s.toks + 1 }) rfl rfl rfl
    exact hQ _ _ _ _ l R' aZY h9
  ·skip
   refine ajl (Option.bind_eq_some_iff.mp h1) fun j hj h1=>?_
   obtain ⟨hjn,hij⟩:=axX hj
   rcases ha with rfl | rfl
   ·obtain ⟨x,vs,_,hl,hv⟩:=aJa va
    refine ajl (VRs.get hv h1) fun y z1 z2=>?_
    have fin:=hQ W st _ _ (Le.refl W) R z2 h9
    have hsz:vs.toArray.size=b.length:=by rw [List.size_toArray,VRs.length hv]
    refine aVF hl.typeIs slot_list_getitem.lookup ?_ (aqE hns)
    rcases hij with ⟨g1,g2,rfl⟩ | ⟨g1,g2,rfl⟩
    ·exact wpAny_getItem_list hl g1 (by walk_at "O") (by simpa using z1) fin
    ·exact wpAny_getItem_list_neg hl g1 (by rw [hsz];exact g2) (by walk_at "O") (by rw [hsz];simpa using z1) fin
   ·obtain ⟨x,vs,_,hl,hv⟩:=bzG va
    refine ajl (VRs.get hv h1) fun y z1 z2=>?_
    have hsz:vs.toArray.size=b.length:=by rw [List.size_toArray,VRs.length hv]
    refine aVF hl.typeIs slot_tuple_getitem.lookup ?_ (aqE hns)
    refine getItem_tuple hl ?_ ?_ (by rw [hsz];exact hj) (by simpa using z1) (hQ W st _ _ (Le.refl W) R z2 h9)<;>rcases hij with ⟨_,_,_⟩ | ⟨_,_,_⟩<;>walk_at "O"
 ·obtain ⟨t,rfl⟩:=ajz vb
  refine ajU (aqv R va h1 h2) fun x kvs e0_ r1_=>?_;subst e0_;obtain ⟨q1,q2,q3⟩:=r1_
  have hg:=q3.get k
  rw [h3] at hg
  revert hg;refine azC fun w z1 z2=>?_
  obtain ⟨l,R'⟩:=R.same (s':={ W.s with toks:=W.s.toks + 1 }) rfl rfl rfl
  exact aVF q2.typeIs slot_dict_getitem.lookup (wpAny_getItem_of (bytesKind_is _ _ k t) q2.mapOf z1 (hQ _ _ _ _ l R' (VR.mono l _ _ z2) h4)) (aqE hns)
theorem aj5.item {o i:Expr}{pos:Pos}{mo mi:M MV} (ho:aj5 S g d o mo) (hi:aj5 S g d i mi) (hns:aZp i=true):aj5 S g d (.Subscript o i pos) (bnd mo fun a=>bnd mi fun b=>ajG a b):=by
 refine ⟨fun cx A W st QM EM Q E hg hA R hm hQ hE=>?_⟩
 refine Subscript_ (ho.then hg hA R hm (fun W₁ st₁ a u l₁ R₁ va hm₁=>?_) hE)
 refine hi.then hg hA R₁ hm₁ (fun W₂ st₂ b v l₂ R₂ vb hm₂=>?_) (hE.tr l₁)
 exact aj4.item (prog:=S.prog) (w:=S.w) (A:=A) (E:=E) (Q:=Q) hns cx A W₂ st₂ QM EM Q E a b u v hA R₂ (VR.mono l₂ _ _ va) vb hm₂ (hQ.tr (l₁.trans l₂)) (hE.tr (l₁.trans l₂))
noncomputable def axx {α : Type} (b:List α) (lo hi:Option Int):List α:=(b.drop (lo.elim 0 (clipAt b.length))).take (hi.elim b.length (clipAt b.length) - lo.elim 0 (clipAt b.length))
noncomputable def aZg:MV→Option (Option Int)
 | .none=>some none
 | .int i=>some (some i)
 | _=>none
theorem bk9 {P:Params}{C:Addr}{W:Wd}{m:MV}{v:Value}{lo:Option Int} (h:VR P C W m v) (e:aZg m=some lo):IsPart v lo:=by
 cases m<;>first | (exfalso;cases e;done) | skip
 ·cases e;rw [aK7 h];exact .none
 ·cases e;obtain ⟨t,rfl⟩:=aJn h;exact .int _ _
noncomputable def av6:MV→MV→MV→M MV
 | .bytes b,l,u=>fun st Q _=>aXd (aZg l) fun lo=>aXd (aZg u) fun hi=>b.length≤16777216∧Q (.bytes (axx b lo hi)) st
 | .list b,l,u=>fun st Q _=>aXd (aZg l) fun lo=>aXd (aZg u) fun hi=>b.length≤10000∧Q (.list (axx b lo hi)) st
 | _,_,_=>azk
theorem bkp {a l u:MV}{st:MSt}{Q:MV→MSt→Prop}{E:Value→MSt→Prop} (h:av6 a l u st Q E):∃ lo hi,aZg l=some lo∧aZg u=some hi∧((∃ b,a = .bytes b∧b.length≤16777216∧Q (.bytes (axx b lo hi)) st)∨∃ b,a = .list b∧b.length≤10000∧Q (.list (axx b lo hi)) st):=by
 cases a<;>first | exact h.elim | skip
 ·refine ajl (akW h) fun lo e1 h=>?_;refine ajl (akW h) fun hi e2 h=>?_;exact ⟨lo,hi,e1,e2,.inl ⟨_,rfl,h⟩⟩
 ·refine ajl (akW h) fun lo e1 h=>?_;refine ajl (akW h) fun hi e2 h=>?_;exact ⟨lo,hi,e1,e2,.inr ⟨_,rfl,h⟩⟩
theorem VRs.drop {P:Params}{C:Addr}{W:Wd}:∀ {xs:List MV}{vs:List Value} (n:Nat),VRs P C W xs vs→VRs P C W (xs.drop n) (vs.drop n)
 | xs,vs,0,h=>h
 | [],vs,n + 1,h=>by subst h;rfl
 | x::xs,vs,n + 1,h=>by
  revert h;refine aq2 fun v r e2_ r3_=>?_;subst e2_;obtain ⟨_,hr⟩:=r3_
  exact VRs.drop n hr
theorem VRs.take {P:Params}{C:Addr}{W:Wd}:∀ {xs:List MV}{vs:List Value} (n:Nat),VRs P C W xs vs→VRs P C W (xs.take n) (vs.take n)
 | xs,vs,0,h=>by rw [List.take_zero,List.take_zero];rfl
 | [],vs,n + 1,h=>by subst h;rfl
 | x::xs,vs,n + 1,h=>by
  revert h;refine aq2 fun v r e4_ r5_=>?_;subst e4_;obtain ⟨hv,hr⟩:=r5_
  rw [List.take_succ_cons,List.take_succ_cons]
  exact ⟨v,_,rfl,hv,VRs.take n hr⟩
noncomputable abbrev aqB (S:ajA) (g:Sig) (d:Nat) (e:Option Expr) (m:M MV):Prop:=az7 S g d (VR S.w.params S.C) (evalPart e) m
theorem aqB.none:aqB S g d none (ret .none):=by
 refine ⟨fun cx A W st QM EM Q E hg hA R hm hQ hE=>?_⟩
 rw [evalPart_none];exact wpAny_pure (hQ W st _ _ (Le.refl W) R aKW hm)
theorem aqB.some {e:Expr}{m:M MV} (h:aj5 S g d e m):aqB S g d (some e) m:=by
 refine ⟨fun cx A W st QM EM Q E hg hA R hm hQ hE=>?_⟩
 rw [evalPart_some];exact h.run cx A W st QM EM Q E hg hA R hm hQ hE
theorem aj5.slice {o:Expr}{lo hi:Option Expr}{p pos:Pos}{mo ml mh:M MV} (ho:aj5 S g d o mo) (hl:aqB S g d lo ml) (hh:aqB S g d hi mh) :
  aj5 S g d (.Subscript o (.Slice lo hi none p) pos) (bnd mo fun a=>bnd ml fun b=>bnd mh fun c=>av6 a b c):=by
 refine ⟨fun cx A W st QM EM Q E hg hA R hm hQ hE=>?_⟩
 refine Subscript_ (ho.then hg hA R hm (fun W₁ st₁ a u l₁ R₁ va hm₁=>wpAny_Slice ?_) hE)
 refine az7.then hl hg hA R₁ hm₁ (fun W₂ st₂ b v l₂ R₂ vb hm₂=>?_) (hE.tr l₁)
 refine az7.then hh hg hA R₂ hm₂ (fun W₃ st₃ c x l₃ R₃ vc hm₃=>?_) (hE.tr (l₁.trans l₂))
 rw [evalPart_none]
 refine wpAny_pure ?_
 have va':=VR.mono (l₂.trans l₃) _ _ va
 have vb':=VR.mono l₃ _ _ vb
 refine aQd (R₃.new (o:={ cls:=.type "slice",data:=.fields #[v,x,.none] }) (k:=W₃.s.toks) rfl) fun l4 R4 hn4 hg4=>?_
 refine ax0 (bkp hm₃) fun plo phi e1 e2 hc=>?_
 clear hm₃
 rcases hc with ⟨b,rfl,hsz,hm₃⟩ | ⟨b,rfl,hsz,hm₃⟩
 ·obtain ⟨t,rfl⟩:=ajz va'
  refine aVF (ops:=[.ref W₃.s.heap.objs.size,.bytes b.toArray t]) (typeIs_bytes _ _ _) FB.slot_bytes_getitem.lookup ?_ rfl
  refine getItem_meets (typeIs_bytes _ _ _) (by decide) FB.slot_bytes_getitem FB.entry_bytes_getitem (FB.args_bytes_getitem_2 _ _) (KBc.meets_slice2 b.toArray t _ (bk9 vb' e1) (bk9 vc e2))
   ⟨Heap.IsSliceOf.new _ _ _ _,Nat.le_trans (KBc.size_picked_le _ _ _) (by rw [List.size_toArray,sizeLine_eq];exact hsz),fun t' k=>?_⟩
  rw [KBc.picked_eq]
  obtain ⟨l5,R5⟩:=R4.same (s':={ W₃.s with heap:=W₃.s.heap.push { cls:=.type "slice",data:=.fields #[v,x,.none] },toks:=k }) rfl rfl rfl
  exact hQ _ _ _ _ (l₁.trans (l₂.trans (l₃.trans (l4.trans l5)))) R5 azA hm₃
 ·skip
  obtain ⟨y,vs,_,hls,hv⟩:=aJa va'
  have hlen:=VRs.length hv
  have hls4:({ W₃.s with heap:=W₃.s.heap.push { cls:=.type "slice",data:=.fields #[v,x,.none] } }:Shared).heap.IsList y vs.toArray:=hls.push _
  refine aVF (ops:=[.ref W₃.s.heap.objs.size,.ref y]) hls4.typeIs list_getitem_lookup ?_ rfl
  refine wpAny_getItem_list_slice hls4 (Heap.IsSliceOf.new _ _ _ _) (bk9 vb' e1) (bk9 vc e2) .none (by simp) ?_ (by rw [List.size_toArray,hlen,sizeLine_eq];walk_at "O")
  rw [slicePick_plain]
  simp only [List.size_toArray,hlen]
  refine aQd (R4.new (o:={ cls:=.type "list",data:=.seq ((vs.drop (plo.elim 0 (clipAt b.length))).take (phi.elim b.length (clipAt b.length) - plo.elim 0 (clipAt b.length))).toArray }) (k:=W₃.s.toks) rfl) fun l5 R5 hn5 hg5=>?_
  refine hQ _ _ _ _ (l₁.trans (l₂.trans (l₃.trans (l4.trans l5)))) R5 ?_ hm₃
  exact aZX ⟨_,_,hn5,⟨_,hg5,rfl,0,rfl⟩,VRs.take _ (VRs.drop _ (VRs.mono (l4.trans l5) _ _ hv))⟩
end
end Mine
end
section
namespace Mine
open PySem PySem.W PyProof.Rows PySem.Calls
theorem aVZ (t:SetTable) (es:Array (Int×Value)) (h:Int) (x:Value):(layNew t es h x).2.1.led=t.led:=by
 unfold layNew
 split
 ·unfold SetTable.orStandIn
  dsimp only
  split<;>rfl
 ·rfl
theorem aQa (t:SetTable) (es:Array (Int×Value)) (n:Nat):(relayAll t es n).2.1.led=t.led∧((relayAll t es n).2.1.plain=true→t.plain=true):=by
 unfold relayAll
 split
 ·rename_i t' order h
  unfold SetTable.relaid SetTable.laid at h
  simp only [Option.bind_eq_bind,Option.bind_eq_some_iff] at h
  revert h;refine azC fun ow _ h=>?_
  cases h
  dsimp only
  split
  ·exact ⟨rfl,id⟩
  ·exact ⟨rfl,fun e=>by cases e⟩
 ·exact ⟨rfl,fun e=>by cases e⟩
section
variable {P:Params}
theorem aqW.elems {prog:Program}{w:World}:∀ {ks:List (List UInt8)}{es:List (Int×Value)},aqW w.params ks es→ElemsOf (bytesKind prog w) es
 | [],es,h=>by rw [show es=[] from h];exact fun e he=>nomatch he
 | k::ks,es,⟨e,r,h1,⟨h2,t,h3⟩,h4⟩=>by
  subst h1
  intro x hx
  rcases List.mem_cons.mp hx with rfl | hx
  ·exact ⟨⟨k,by rw [h3];exact bytesKind_is _ _ _ _,h2⟩,by rw [h3];rfl⟩
  ·exact aqW.elems h4 x hx
theorem aqW.length:∀ {ks:List (List UInt8)}{es:List (Int×Value)},aqW P ks es→es.length=ks.length
 | [],es,h=>by rw [show es=[] from h];rfl
 | k::ks,es,⟨e,r,h1,_,h4⟩=>by rw [h1,List.length_cons,List.length_cons,aqW.length h4]
theorem aqW.find {prog:Program}{w:World} (k:List UInt8):∀ {ks:List (List UInt8)}{es:List (Int×Value)},aqW w.params ks es→es.findIdx? (fun e=>(bytesKind prog w).is k e.2)=ks.findIdx? (fun x=>decide (k=x))
 | [],es,h=>by rw [show es=[] from h];rfl
 | x::ks,es,⟨e,r,h1,⟨h2,t,h3⟩,h4⟩=>by
  subst h1
  have hi:(bytesKind prog w).is k e.2=decide (k=x):=by rw [h3];exact KeyKind.is_eq_decide (bytesKind_is _ _ _ _) k
  rw [List.findIdx?_cons,List.findIdx?_cons,hi,aqW.find k h4]
theorem aqW.append:∀ {ks ks':List (List UInt8)}{es es':List (Int×Value)},aqW P ks es→aqW P ks' es'→aqW P (ks++ks') (es++es')
 | [],ks',es,es',h,h'=>by rw [show es=[] from h];exact h'
 | x::ks,ks',es,es',⟨e,r,h1,h2,h4⟩,h'=>by subst h1;exact ⟨e,_,rfl,h2,aqW.append h4 h'⟩
theorem aqW.perm {es es':List (Int×Value)} (p:es.Perm es'):∀ {ks:List (List UInt8)},aqW P ks es→∃ ks',ks.Perm ks'∧aqW P ks' es':=by
 induction p with
 | nil=>intro ks h;exact ⟨ks,.refl _,h⟩
 | cons x _ ih=>
  intro ks h
  cases ks with
  | nil=>cases h
  | cons k ks=>
   revert h;refine aQB fun e r h1 h2 h4=>?_
   cases h1
   refine ajl (ih h4) fun ks' q1 q2=>?_
   exact ⟨k::ks',q1.cons k,x,_,rfl,h2,q2⟩
 | swap x y l=>
  intro ks h
  cases ks with
  | nil=>cases h
  | cons k ks=>
   revert h;refine aQB fun e r h1 h2 h4=>?_
   cases h1
   cases ks with
   | nil=>cases h4
   | cons k' ks=>
    revert h4;refine aQB fun e' r' h1' h2' h4'=>?_
    cases h1'
    exact ⟨k'::k::ks,.swap k' k ks,_,_,rfl,h2',_,_,rfl,h2,h4'⟩
 | trans _ _ ih1 ih2=>
  intro ks h
  refine ajl (ih1 h) fun k1 a1 b1=>?_
  refine ajl (ih2 b1) fun k2 a2 b2=>?_
  exact ⟨k2,a1.trans a2,b2⟩
end
noncomputable def aqG (xs:List (List UInt8)) (k:List UInt8):List (List UInt8):=if k∈xs then xs else xs++[k]
section
variable {prog:Program}{w:World}{A:Around}{E:Value→Shared→Prop}{s:Shared}
theorem bjK {a:Addr}{o:Obj}{xs:List (List UInt8)}{k:List UInt8}{tk:Tok}{Q:Bool→Shared→Prop} (ho:s.heap.get? a=some o) (hS:axj w.params xs o) (hroom:xs.length + 1 < scanBound)
  (h:∀ (b:Bool) (h':Heap) (o':Obj),Heap.SameBut a s.heap h'→h'.get? a=some o'→axj w.params (aqG xs k) o'→Q b { s with heap:=h',toks:=s.toks + 1 }):wpAny (model prog w) A (setAdd a (.bytes k.toArray tk)) Q E s:=by
 obtain ⟨hex,es,ep,t,hd,⟨ks,hperm,hes⟩,hnd,hb,hf,hled,hplain⟩:=hS
 have hel:=hes.elems (prog:=prog)
 have hlen:es.size=xs.length:=by rw [← Array.length_toList,hes.length,hperm.length_eq]
 have hb1:es.size + 1 < scanBound:=by rw [hlen];exact hroom
 refine wpAny_holding (wpAny_bind ((bytesKind prog w).pyHash (bytesKind_is _ _ k tk) ?_))
 refine wpAny_holding (wpAny_bind (wpAny_setState_of ho hd hf ?_))
 dsimp only
 rw [byScan_of rfl (by walk_at "O") hel]
 refine wpAny_bind (wpAny_bind (wpAny_rule (wpAny_bind (wpAny_setScan_of (knd:=bytesKind prog w) (bytesKind_is _ _ k tk) ho hd hf hel ?_))))
 rw [hes.find k]
 cases hr:List.findIdx? (fun x=>decide (k=x)) ks with
 | some j=>
  dsimp only
  refine ajl (List.findIdx?_eq_some_iff_getElem.mp hr) fun hj hpj _=>?_
  have hk:k∈xs:=hperm.mem_iff.mp (by have:=of_decide_eq_true hpj;rw [this];exact List.getElem_mem hj)
  refine wpAny_pure (wpAny_pure (h _ s.heap o (Heap.SameBut.refl a s.heap) ho ⟨hex,es,ep,t,hd,⟨ks,?_,hes⟩,?_,hb,hf,hled,hplain⟩))
  ·unfold aqG;rw [if_pos hk];exact hperm
  ·unfold aqG;rw [if_pos hk];exact hnd
 | none=>
  dsimp only
  have hk:k∉xs:=fun q=>by
   have:=List.findIdx?_eq_none_iff.mp hr k (hperm.mem_iff.mpr q)
   simp at this
  have hgw:∀ (b:Bool) {s₁:Shared}{Q':Unit→Shared→Prop},Q' () s₁→wpAny (model prog w) A (match b with | true=>rule "set.scan.the-table-gave-way" | false=>pure ()) Q' E s₁:=
   fun b s₁ Q' hq=>by cases b<;>first | exact wpAny_pure hq | exact wpAny_rule hq
  have hp:=layNew_perm t es ((bytesKind prog w).hash k) (.bytes k.toArray tk)
  have hfits:=layNew_fits t es ((bytesKind prog w).hash k) (.bytes k.toArray tk)
  have hld:=aVZ t es ((bytesKind prog w).hash k) (.bytes k.toArray tk)
  generalize hL:layNew t es ((bytesKind prog w).hash k) (.bytes k.toArray tk)=L at hp hfits hld ⊢
  obtain ⟨es1,t1,wasDummy,gave⟩:=L
  dsimp only at hp hfits hld ⊢
  rw [Array.toList_push] at hp
  have happ:aqW w.params (ks++[k]) (es.toList++[((bytesKind prog w).hash k,Value.bytes k.toArray tk)]):=hes.append ⟨_,[],rfl,⟨rfl,tk,rfl⟩,rfl⟩
  refine ajl (aqW.perm hp.symm happ) fun ks1 hk1 hes1=>?_
  have hsz1:es1.size=es.size + 1:=by rw [← Array.length_toList,hp.length_eq,List.length_append,Array.length_toList];rfl
  have hperm1:ks1.Perm (xs++[k]):=hk1.symm.trans (hperm.append_right _)
  have hnd1:(xs++[k]).Nodup:=by
   rw [List.nodup_append]
   exact ⟨hnd,by simp,fun a ha b hb=>by rw [List.mem_singleton.mp hb];exact fun q=>hk (q ▸ ha)⟩
  have hins:aqG xs k=xs++[k]:=by unfold aqG;rw [if_neg hk]
  refine wpAny_bind (hgw _ ?_)
  have tail:∀ t2:SetTable,t2.led=t.led→t2.plain=false→t2.fits es1.size=true→∀ (R:Option Bool→Shared→Prop),
    (∀ (h':Heap) (o':Obj),Heap.SameBut a s.heap h'→h'.get? a=some o'→axj w.params (aqG xs k) o'→R (some true) { s with heap:=h',toks:=s.toks + 1 })→
    wpAny (model prog w) A (do
     storeSet a es1 t2
     if (!wasDummy && t2.tooFull)=true then do
       (match (relayAll t2 es1 (SetTable.grown es1.size)).2.2 with | true=>rule "set.scan.the-table-gave-way" | false=>pure ())
       storeSet a (relayAll t2 es1 (SetTable.grown es1.size)).1 (relayAll t2 es1 (SetTable.grown es1.size)).2.1
       pure (some true)
      else pure (some true)) R E { s with toks:=s.toks + 1 }:=fun t2 g1 g2 g3 R hR=>by
   have st:∀ {hh:Heap}{oo:Obj}{e0:Array (Int×Value)}{p0:Nat}{t0:SetTable} (e':Array (Int×Value)) (t':SetTable),hh.get? a=some oo→oo.ExactSet→oo.data = .set e0 p0 t0→
     (hh.update a (Obj.putSet e' t')).get? a=some { oo with data:=.set e' (p0 + 1) t' }:=fun {hh oo e0 p0 t0} e' t' x1 x2 x3=>by
    have:=Heap.get?_update_self (Obj.putSet e' t') x1 (by rw [putSet_of e' t' x3];rfl)
    rw [putSet_of e' t' x3] at this;exact this
   have ho1:=st es1 t2 ho hex hd
   have hsb1:=Heap.SameBut.update s.heap a (Obj.putSet es1 t2)
   refine wpAny_bind (wpAny_storeSet_of (s:={ s with toks:=s.toks + 1 }) ho hd ?_ (fits_of_scanBound (by rw [hsz1];exact hb1)))
   split
   ·have hp2:=relayAll_perm t2 es1 (SetTable.grown es1.size)
    have hfr:=relayAll_fits t2 es1 (SetTable.grown es1.size)
    have hfl:=aQa t2 es1 (SetTable.grown es1.size)
    generalize relayAll t2 es1 (SetTable.grown es1.size)=Rl at hp2 hfr hfl ⊢
    obtain ⟨es2,t3,gave2⟩:=Rl
    dsimp only at hp2 hfr hfl ⊢
    refine ajl (aqW.perm hp2.symm hes1) fun ks2 hk2 hes2=>?_
    have hsz2:es2.size=es1.size:=by rw [← Array.length_toList,hp2.length_eq,Array.length_toList]
    refine wpAny_bind (hgw _ ?_)
    refine wpAny_bind (wpAny_storeSet_of (s:={ s with heap:=s.heap.update a (Obj.putSet es1 t2),toks:=s.toks + 1 }) ho1 rfl ?_ (fits_of_scanBound (by rw [hsz2,hsz1];exact hb1)))
    refine wpAny_pure (hR _ _ (hsb1.trans (Heap.SameBut.update _ a _)) (st es2 t3 ho1 hex rfl) ⟨hex,es2,_,t3,rfl,⟨ks2,?_,hes2⟩,?_,?_,hfr,?_,fun q=>?_⟩)
    ·rw [hins];exact hk2.symm.trans hperm1
    ·rw [hins];exact hnd1
    ·rw [hsz2,hsz1];exact hb1
    ·rw [hfl.1,g1];exact hled
    ·have:=hfl.2 q;rw [g2] at this;cases this
   ·refine wpAny_pure (hR _ _ hsb1 ho1 ⟨hex,es1,_,t2,rfl,⟨ks1,?_,hes1⟩,?_,?_,g3,?_,fun q=>by rw [g2] at q;cases q⟩)
    ·rw [hins];exact hperm1
    ·rw [hins];exact hnd1
    ·rw [hsz1];exact hb1
    ·rw [g1];exact hled
  split
  ·refine wpAny_bind ?_
   rw [hashByValue_scannable 8 rfl]
   refine wpAny_pure ?_
   refine tail { t1 with plain:=false } hld rfl (SetTable.fits_plain_off hfits) _ fun h' o' x1 x2 x3=>?_
   dsimp only
   exact wpAny_pure (h _ h' o' x1 x2 x3)
  ·rename_i hpl
   refine wpAny_bind (wpAny_pure ?_)
   refine tail _ hld (by simpa using hpl) hfits _ fun h' o' x1 x2 x3=>?_
   dsimp only
   exact wpAny_pure (h _ h' o' x1 x2 x3)
end
end Mine
end
section
namespace Mine
open PySem PySem.W PyProof.Rows PySem.Calls
theorem aZ4 {M:Model}{A:Around}{E:Value→Shared→Prop}{s:Shared}{src:Source}{n:Nat}{Q:Nat→Shared→Prop} (hn:n≠0) (h:∀ (k:Nat) (d:Drawn),k < n→Q k { s with drawn:=d }):wpAny M A (choose src n) Q E s:=fun Γ p _=>by
 show Sem.wp M Γ (.choose src n .pure) _ _ p s
 rw [Sem.wp_choose]
 exact ⟨hn,h _ _ (Nat.mod_lt _ (Nat.pos_of_ne_zero hn))⟩
theorem akg {α : Type}:∀ (xs:List α) (i:Nat) (x : α),xs[i]? = some x→(x::xs.eraseIdx i).Perm xs
 | [],i,x,h=>by simp at h
 | y::ys,0,x,h=>by cases h;exact .refl _
 | y::ys,i + 1,x,h=>by
  have ih:=akg ys i x h
  exact (List.Perm.swap y x _).trans (ih.cons y)
theorem aQW {α : Type}{M:Model}{A:Around}{E:Value→Shared→Prop}:∀ (n:Nat) (xs:List α) (s:Shared) (Q:List α→Shared→Prop),n=xs.length→(∀ ys d,ys.Perm xs→Q ys { s with drawn:=d })→wpAny M A (drawOrder n xs) Q E s
 | 0,xs,s,Q,hl,h=>by
  have:xs=[]:=List.length_eq_zero_iff.mp hl.symm
  subst this
  exact wpAny_pure (h [] s.drawn (.refl _))
 | n + 1,[],s,Q,hl,h=>by cases hl
 | n + 1,x::xs,s,Q,hl,h=>by
  refine wpAny_bind (aZ4 (by simp) fun k d hk=>?_)
  rw [List.getElem?_eq_getElem hk]
  dsimp only
  refine wpAny_bind (aQW n _ _ _ (by rw [List.length_eraseIdx_of_lt hk];simp at hl ⊢; walk_at "O") fun ys d' hp=>wpAny_pure ?_)
  exact h _ d' ((hp.cons _).trans (akg _ k _ (List.getElem?_eq_getElem hk)))
theorem avS {α : Type} (f:Nat→Nat):∀ (n k:Nat) (xs:List α) (out:Array α),n=xs.length→(pickOrder.go f n k xs out).toList.Perm (out.toList++xs)
 | 0,k,xs,out,hl=>by
  have:xs=[]:=List.length_eq_zero_iff.mp hl.symm
  subst this
  unfold pickOrder.go;simp
 | n + 1,k,[],out,hl=>by cases hl
 | n + 1,k,x::xs,out,hl=>by
  unfold pickOrder.go
  have hk:f k % (x::xs).length < (x::xs).length:=Nat.mod_lt _ (by simp)
  rw [List.getElem?_eq_getElem hk]
  dsimp only
  refine (avS f n (k + 1) _ _ (by rw [List.length_eraseIdx_of_lt hk];simp at hl ⊢; walk_at "O")).trans ?_
  rw [Array.toList_push,List.append_assoc]
  exact (akg _ _ _ (List.getElem?_eq_getElem hk)).append_left _
theorem aQb {α : Type} (f:Nat→Nat) (xs:Array α):(pickOrder f xs).toList.Perm xs.toList:=by
 unfold pickOrder
 have:=avS f xs.size 0 xs.toList #[] (by simp)
 simpa using this
namespace SI
theorem slot_next:Slot "set_iterator" "__next__" "set_iterator.__next__":=
 .of (owner:="set_iterator") (n:="__next__") (by rw [typeLookup_type,builtinLookup_eq_fast];kernel_rfl) (by decide +kernel) (by decide +kernel) (by decide +kernel)
  (by first | exact .inl (by decide +kernel) | exact .inr (by decide +kernel)) (by rw [isSubtype_type];kernel_rfl)
theorem slot_self:Slot "set_iterator" "__iter__" "set_iterator.__iter__":=
 .of (owner:="set_iterator") (n:="__iter__") (by rw [typeLookup_type,builtinLookup_eq_fast];kernel_rfl) (by decide +kernel) (by decide +kernel) (by decide +kernel)
  (by first | exact .inl (by decide +kernel) | exact .inr (by decide +kernel)) (by rw [isSubtype_type];kernel_rfl)
theorem entry_next:entryFor table "set_iterator.__next__" = some Builtin.«set_iterator.__next__»:=entryFor_of_tree (by kernel_rfl)
theorem entry_self:entryFor table "set_iterator.__iter__" = some Builtin.«dict_keyiterator.__iter__»:=entryFor_alias (id':="dict_keyiterator.__iter__") (by kernel_rfl) rfl (by decide +kernel) (by kernel_rfl)
theorem args_next (a:Value):argsOk "set_iterator.__next__" ⟨[a],[]⟩:=by kernel_rfl
theorem args_self (a:Value):argsOk "set_iterator.__iter__" ⟨[a],[]⟩:=by kernel_rfl
theorem entry_iter:entryFor table "set.__iter__" = some Builtin.«frozenset.__iter__»:=entryFor_alias (id':="frozenset.__iter__") (by kernel_rfl) rfl (by decide +kernel) (by kernel_rfl)
theorem args_iter (a:Value):argsOk "set.__iter__" ⟨[a],[]⟩:=by kernel_rfl
end SI
noncomputable def ajL (h:Heap) (it a:Addr) (first:Value) (i n ep:Nat):Prop:=∃ o,h.get? it=some o∧o.cls = .type "set_iterator"∧o.data = .fields #[first,.int i 0,.ref a,.int n 0,.int ep 0]
theorem ajL.typeIs {s:Shared}{it a:Addr}{first:Value}{i n ep:Nat} (y:ajL s.heap it a first i n ep):s.TypeIs (.ref it) "set_iterator":=let ⟨o,ho,hc,_⟩:=y;⟨o,ho,hc⟩
section
variable {prog:Program}{w:World}{A:Around}{E:Value→Shared→Prop}{s:Shared}
theorem akM {it a:Addr}{first:Value}{i n ep:Nat}{Q:Value→Shared→Prop} (hit:ajL s.heap it a first i n ep) (h:Q (.ref it) s):wpAny (model prog w) A (pyIter (.ref it)) Q E s:=by
 refine wpAny_pyIter_slot hit.typeIs SI.slot_self (wpAny_call_entry SI.slot_self hit.typeIs SI.entry_self ?_ (SI.args_self _))
 show wpAny _ _ (PySem.ret (.ref it)) _ _ s
 exact wpAny_pure ⟨_,rfl,"set_iterator",_,hit.typeIs,SI.slot_next.lookup,h⟩
theorem bva {M:Model}{α : Type}{Q : α→Shared→Prop} (hh:A.handled=none) (h:∀ (h':Heap) (e:Addr),(∀ b o,s.heap.get? b=some o→h'.get? b=some o)→(∃ o,h'.get? e=some o∧o.cls = .type "StopIteration")→E (.ref e) { s with heap:=h' }) :
  wpAny M A (do (raiseNew (← newExc (.type "StopIteration") []):Sem α)) Q E s:=by
 refine wpAny_bind ?_
 refine wpAny_bind (wpAny_newObj_type ?_ (by size_fits))
 refine wpAny_bind (m:=firstArgMember _ _) (wpAny_of_eq (a:=Value.none) (by first | rfl | (rfl)) ?_)
 refine wpAny_newObj_type ?_ (by size_fits)
 refine wpAny_bind (wpAny_handled ?_)
 rw [hh]
 refine wpAny_bind (wpAny_pure (wpAny_throw (h _ _ (fun b o e=>Heap.get?_push_of_some _ (Heap.get?_push_of_some _ e)) ⟨_,Heap.get?_push_size _ rfl,rfl⟩)))
theorem aJm {it a:Addr}{first:Value}{i n ep:Nat}{Q:Option Value→Shared→Prop} (hit:ajL s.heap it a first i n ep)
  (h:wpAny (model prog w) A.in1 (Builtin.«set_iterator.__next__» ⟨[.ref it],[]⟩) (fun r s'=>∃ v,r = .done (.ret v)∧Q (some v) s') (fun e s'=>wpAny (model prog w) A (isInstance e (.type "StopIteration")) (fun b s₂=>b=true∧Q none s₂) E s') s):wpAny (model prog w) A (pyNext (.ref it)) Q E s:=by
 refine wpAny_bind (wpAny_attempt (wpAny_callSpecial?_slot (name:=PySem.Str.ofString "__next__") hit.typeIs SI.slot_next
  (wpAny_call_entry SI.slot_next hit.typeIs SI.entry_next (wpAny_mono h (fun r s' hr=>?_) fun e s' he=>?_) (SI.args_next _))))
 ·revert hr;refine azC fun v e6_ hq=>?_;subst e6_
  exact ⟨v,rfl,wpAny_pure hq⟩
 ·refine wpAny_bind (wpAny_mono he (fun b s₂ hb=>?_) fun _ _ x=>x)
  obtain ⟨rfl,hq⟩:=hb
  exact wpAny_pure hq
theorem ava {M:Model}{it:Addr}{o:Obj}{vs:Array Value}{Q:Array Value→Shared→Prop} (ho:s.heap.get? it=some o) (hd:o.data = .fields vs) (h:Q vs s):wpAny M A (fieldsOf (.ref it)) Q E s:=by
 refine wpAny_bind (wpAny_load ho ?_)
 rw [hd]
 exact wpAny_pure h
theorem azl {a:Addr}{o:Obj}{es:Array (Int×Value)}{ep:Nat}{t:SetTable}{Q:Array (Int×Value)→Shared→Prop} (ho:s.heap.get? a=some o) (hd:o.data = .set es ep t) (hf:t.fits es.size=true) (h:Q es s):wpAny (model prog w) A (setEntries a) Q E s:=
 wpAny_setEntries_of ho hd hf h
theorem aVW {it a tp:Addr}{o:Obj}{es:Array (Int×Value)}{ep:Nat}{t:SetTable}{i:Nat}{ot:Obj}{ps:List Nat}{nt:Nat}{j:Nat}{e:Int×Value}{Q:Option Value→Shared→Prop}
  (hit:ajL s.heap it a (.ref tp) i es.size ep) (ho:s.heap.get? a=some o) (hd:o.data = .set es ep t) (hf:t.fits es.size=true)
  (ht:s.heap.get? tp=some ot) (htd:ot.data = .seq (ps.map fun (p:Nat)=>rawInt p).toArray nt) (hj:ps[i]? = some j) (he:es[j]? = some e)
  (hQ:∀ h',ajL h' it a (.ref tp) (i + 1) es.size ep→Heap.SameBut it s.heap h'→Q (some e.2) { s with heap:=h' }):wpAny (model prog w) A (pyNext (.ref it)) Q E s:=by
 refine aJm hit ?_
 revert hit;refine aZb fun oi hoi hci hdi=>?_
 show wpAny _ _ (fieldsOf (.ref it)>>=_) _ _ s
 refine wpAny_bind (ava hoi hdi ?_)
 dsimp only
 refine wpAny_bind (azl ho hd hf ?_)
 rw [if_neg (by simp)]
 refine wpAny_bind (wpAny_seqItems ht htd ?_)
 dsimp only
 have hp:(ps.map fun (p:Nat)=>rawInt p).toArray[((i:Nat):Int).toNat]? = some (rawInt j):=by simp [hj]
 rw [hp]
 dsimp only [rawInt]
 refine wpAny_bind (wpAny_bind (wpAny_setState_of ho hd hf ?_))
 dsimp only
 rw [if_neg (by simp)]
 have:es[((j:Nat):Int).toNat]? = some e:=by simpa using he
 rw [this]
 dsimp only
 refine wpAny_pure ?_
 refine wpAny_bind (wpAny_setField hoi hdi (by simp) (wpAny_pure ⟨_,rfl,hQ _ ?_ (Heap.SameBut.update ..)⟩))
 exact ⟨_,Heap.get?_update_self _ hoi (Obj.isFreed_of_fields (Obj.data_mapFields hdi _)),(Obj.cls_mapFields ..).trans hci,by rw [Obj.data_mapFields hdi];simp [rawInt]⟩
theorem bz4 {it a tp:Addr}{o:Obj}{es:Array (Int×Value)}{ep:Nat}{t:SetTable}{i:Nat}{ot:Obj}{ps:List Nat}{nt:Nat}{Q:Option Value→Shared→Prop} (hh:A.handled=none)
  (hit:ajL s.heap it a (.ref tp) i es.size ep) (ho:s.heap.get? a=some o) (hd:o.data = .set es ep t) (hf:t.fits es.size=true)
  (ht:s.heap.get? tp=some ot) (htd:ot.data = .seq (ps.map fun (p:Nat)=>rawInt p).toArray nt) (hj:ps[i]? = none)
  (hQ:∀ h',Heap.ExtBut it s.heap h'→Q none { s with heap:=h' }):wpAny (model prog w) A (pyNext (.ref it)) Q E s:=by
 refine aJm hit ?_
 revert hit;refine aZb fun oi hoi hci hdi=>?_
 show wpAny _ _ (fieldsOf (.ref it)>>=_) _ _ s
 refine wpAny_bind (ava hoi hdi ?_)
 dsimp only
 refine wpAny_bind (azl ho hd hf ?_)
 rw [if_neg (by simp)]
 refine wpAny_bind (wpAny_seqItems ht htd ?_)
 dsimp only
 have hp:(ps.map fun (p:Nat)=>rawInt p).toArray[((i:Nat):Int).toNat]? = none:=by simp [hj]
 rw [hp]
 dsimp only
 refine wpAny_bind (wpAny_setField hoi hdi (by simp) ?_)
 have hoi2:=Heap.get?_update_self (Obj.mapFields (·.setIfInBounds 0 (rawInt 0))) hoi (Obj.isFreed_of_fields (Obj.data_mapFields hdi _))
 have hdi2:=Obj.data_mapFields hdi (·.setIfInBounds 0 (rawInt 0))
 refine wpAny_bind (wpAny_setField hoi2 hdi2 (by simp) ?_)
 refine bva (by exact hh) fun h' e hk he=>?_
 revert he;refine azC fun oe hoe hce=>?_
 refine wpAny_isInstance (T:="StopIteration") (b:=true) ⟨oe,hoe,hce⟩ isSubtype_stop ⟨rfl,hQ _ fun b ob hb eb=>hk b ob ?_⟩
 exact (Heap.get?_update_other _ _ (Ne.symm hb)).trans ((Heap.get?_update_other _ _ (Ne.symm hb)).trans eb)
theorem bjc (xs:Array Nat):SetTable.below xs 0=0:=by
 have:∀ n hi,SetTable.below.go xs 0 n 0 hi=0:=by
  intro n
  induction n with
  | zero=>intro hi;rfl
  | succ n ih=>
   intro hi
   unfold SetTable.below.go
   split
   ·rw [if_neg (Nat.not_lt_zero _)];exact ih _
   ·rfl
 exact this _ _
theorem bzl (xs:Array Nat) (x:Nat) (h:xs = #[x]):SetTable.below xs (x + 1)=1:=by
 subst h
 show SetTable.below.go #[x] (x + 1) 1 0 1=1
 unfold SetTable.below.go
 simp
 rfl
theorem aKf {it a:Addr}{o:Obj}{es:Array (Int×Value)}{ep:Nat}{t:SetTable}{i slot slot':Nat}{x:Value}{Q:Option Value→Shared→Prop}
  (hit:ajL s.heap it a (.int slot 0) i es.size ep) (ho:s.heap.get? a=some o) (hd:o.data = .set es ep t) (hf:t.fits es.size=true)
  (hn:wpAny (model prog w) A.in1 (setNext a slot i ep) (fun r s'=>r=some (x,slot')∧s'=s) (fun _ _=>False) s)
  (hQ:∀ h',ajL h' it a (.int slot' 0) (i + 1) es.size ep→Heap.SameBut it s.heap h'→Q (some x) { s with heap:=h' }):wpAny (model prog w) A (pyNext (.ref it)) Q E s:=by
 refine aJm hit ?_
 revert hit;refine aZb fun oi hoi hci hdi=>?_
 show wpAny _ _ (fieldsOf (.ref it)>>=_) _ _ s
 refine wpAny_bind (ava hoi hdi ?_)
 dsimp only
 refine wpAny_bind (azl ho hd hf ?_)
 rw [if_neg (by simp)]
 refine wpAny_bind (wpAny_mono hn (fun r s' hr=>?_) fun _ _ e=>e.elim)
 obtain ⟨rfl,rfl⟩:=hr
 dsimp only
 refine wpAny_bind (wpAny_setField hoi hdi (by simp) ?_)
 have hoi2:=Heap.get?_update_self (Obj.mapFields (·.setIfInBounds 0 (rawInt slot'))) hoi (Obj.isFreed_of_fields (Obj.data_mapFields hdi _))
 have hdi2:=Obj.data_mapFields hdi (·.setIfInBounds 0 (rawInt slot'))
 refine wpAny_bind (wpAny_setField hoi2 hdi2 (by simp) (wpAny_pure ⟨_,rfl,hQ _ ?_ ((Heap.SameBut.update _ _ _).trans (Heap.SameBut.update _ _ _))⟩))
 exact ⟨_,Heap.get?_update_self _ hoi2 (Obj.isFreed_of_fields (Obj.data_mapFields hdi2 _)),(Obj.cls_mapFields ..).trans ((Obj.cls_mapFields ..).trans hci),by rw [Obj.data_mapFields hdi2];simp [rawInt]⟩
theorem aVq {it a:Addr}{o:Obj}{es:Array (Int×Value)}{ep:Nat}{t:SetTable}{i slot:Nat}{Q:Option Value→Shared→Prop} (hh:A.handled=none)
  (hit:ajL s.heap it a (.int slot 0) i es.size ep) (ho:s.heap.get? a=some o) (hd:o.data = .set es ep t) (hf:t.fits es.size=true)
  (hn:wpAny (model prog w) A.in1 (setNext a slot i ep) (fun r s'=>r=none∧s'=s) (fun _ _=>False) s)
  (hQ:∀ h',Heap.ExtBut it s.heap h'→Q none { s with heap:=h' }):wpAny (model prog w) A (pyNext (.ref it)) Q E s:=by
 refine aJm hit ?_
 revert hit;refine aZb fun oi hoi hci hdi=>?_
 show wpAny _ _ (fieldsOf (.ref it)>>=_) _ _ s
 refine wpAny_bind (ava hoi hdi ?_)
 dsimp only
 refine wpAny_bind (azl ho hd hf ?_)
 rw [if_neg (by simp)]
 refine wpAny_bind (wpAny_mono hn (fun r s' hr=>?_) fun _ _ e=>e.elim)
 obtain ⟨rfl,rfl⟩:=hr
 dsimp only
 refine wpAny_bind (wpAny_setField hoi hdi (by simp) ?_)
 refine bva (by exact hh) fun h' e hk he=>?_
 revert he;refine azC fun oe hoe hce=>?_
 refine wpAny_isInstance (T:="StopIteration") (b:=true) ⟨oe,hoe,hce⟩ isSubtype_stop ⟨rfl,hQ _ fun b ob hb eb=>hk b ob ?_⟩
 exact (Heap.get?_update_other _ _ (Ne.symm hb)).trans eb
theorem avR {a:Addr}{o:Obj}{es:Array (Int×Value)}{ep:Nat}{t:SetTable}{slot i:Nat}{Q:Option (Value×Nat)→Shared→Prop} (ho:s.heap.get? a=some o) (hd:o.data = .set es ep t) (hf:t.fits es.size=true)
  (hb:w.params.followText "set-order" = true) (h:Q (((pickOrder (w.params.setOrder a ep) es)[i]?).map fun e=>(e.2,slot)) s):wpAny (model prog w) A (setNext a slot i ep) Q E s:=by
 refine wpAny_bind (wpAny_setState_of ho hd hf ?_)
 refine wpAny_bind (wpAny_bind (wpAny_askSetting (wpAny_pure ?_)))
 dsimp only
 rw [if_pos (show (model prog w).w.params.followText "set-order" = true from hb),if_neg (by simp)]
 refine wpAny_bind (wpAny_bind (wpAny_setState_of ho hd hf ?_))
 refine wpAny_bind (wpAny_bind (wpAny_askSetting (wpAny_pure ?_)))
 dsimp only
 rw [if_pos (show (model prog w).w.params.followText "set-order" = true from hb)]
 exact wpAny_bind (wpAny_askSetting (wpAny_pure (wpAny_pure h)))
theorem axW {a:Addr}{o:Obj}{es:Array (Int×Value)}{ep:Nat}{t:SetTable}{slot i:Nat}{Q:Option (Value×Nat)→Shared→Prop} (ho:s.heap.get? a=some o) (hd:o.data = .set es ep t) (hf:t.fits es.size=true)
  (hb:w.params.followText "set-order" = false) (hl:t.led=true) (h1:es.size≤1) (h:Q (match es[SetTable.below t.place slot]?,t.place[SetTable.below t.place slot]? with | some (_,x),some j=>some (x,j + 1) | _,_=>none) s):wpAny (model prog w) A (setNext a slot i ep) Q E s:=by
 refine wpAny_bind (wpAny_setState_of ho hd hf ?_)
 refine wpAny_bind (wpAny_bind (wpAny_askSetting (wpAny_pure ?_)))
 dsimp only
 rw [if_neg (show ¬ (model prog w).w.params.followText "set-order" = true from by rw [show (model prog w).w.params.followText "set-order" = false from hb];simp)]
 refine wpAny_ite_split (fun hc=>?_) fun _=>?_
 ·exfalso
  have:(!t.plain && decide (es.size > 1))=true:=hc
  simp at this
  walk_at "O"
 ·refine wpAny_bind ?_
  show wpAny _ _ (if (!t.led && !es.isEmpty)=true then _ else pure ()) _ _ s
  rw [if_neg (by simp [hl])]
  refine wpAny_pure (wpAny_pure ?_)
  exact h
end
end Mine
end
section
set_option genSizeOf false
set_option genInjectivity false
namespace Mine
open PySem PySem.W PyProof.Rows PySem.Calls
section
variable {S:ajA}{g:Sig}{d:Nat}
theorem aqW.vrs {P:Params}{C:Addr}{W:Wd}:∀ {ks:List (List UInt8)}{es:List (Int×Value)},aqW P ks es→VRs P C W (ks.map MV.bytes) (es.map (·.2))
 | [],es,h=>by rw [show es=[] from h];exact rfl
 | k::ks,es,⟨e,r,h1,⟨_,t,h3⟩,h4⟩=>by
  subst h1
  rw [List.map_cons,List.map_cons]
  exact ⟨_,_,rfl,by rw [h3];exact azA,aqW.vrs h4⟩
theorem aqn.one {cx:Cx}{W:Wd}{st:MSt}{QM:List MV→MSt→Prop}{Q:Value→Shared→Prop}{oI:Obj}{s':Shared}{fp:List Addr}{xs:List MV}{P:Nat→Value→Prop}{St:Nat→Heap→Prop}{I:Addr} (R:Rel S cx W st) (hQ:IOk S cx W QM Q) (hm:QM xs st) (hk:∀ b o,W.s.heap.get? b=some o→s'.heap.get? b=some o) (hg:s'.gens=W.s.gens) (ho:s'.os=W.s.os)
  (hn:W.s.heap.get? I=none) (hI:s'.heap.get? I=some oI) (walks:∀ A:Around,A.handled=none→Walks S.prog S.w A I fp [I] xs.length P St) (h0:St 0 s'.heap)
  (ex:∀ i h,St i h→∃ o,h.get? I=some o) (ro:∀ b∈fp,b≠I→¬ W.D b∧∃ o,s'.heap.get? b=some o) (items:∀ i v mv,P i v→xs[i]? = some mv→VR S.w.params S.C W mv v) :
  Q (.ref I) s':=by
 obtain ⟨l,R'⟩:=R.pinNew (s':=s') hk (hg ▸ R.gens) ho (ps:=[(I,oI)]) (fun p hp=>by rw [List.mem_singleton.mp hp];exact ⟨hn,hI⟩)
 refine hQ _ st xs I [(I,oI)] fp P St l R' { walks:=walks,st:=h0,ex:=fun i h hst b hb=>by rw [List.mem_singleton.mp hb];exact ex i h hst,ro:=fun b hb hbp=>?_,items:=fun i v mv hP hx=>VR.mono l _ _ (items i v mv hP hx),ap:=fun p hp hb=>?_ } hm
 ·have hbI:b≠I:=fun e=>hbp (by simp [e])
  obtain ⟨z1,z2⟩:=ro b hb hbI
  exact ⟨fun z=>z.elim z1 fun z=>hbp z,z2⟩
 ·have z:=(R.pins p hp).2.1
  rw [List.mem_singleton.mp hb,hn] at z;cases z
theorem aqn.push {cx:Cx}{W:Wd}{st:MSt}{QM:List MV→MSt→Prop}{Q:Value→Shared→Prop}{ob:Obj}{fp:List Addr}{xs:List MV}{P:Nat→Value→Prop} (St:Addr→Nat→Heap→Prop) (hf:ob.isFreed=false) (R:Rel S cx W st) (hQ:IOk S cx W QM Q) (hm:QM xs st)
  (old:∀ b∈fp,¬ W.D b∧∃ o,W.s.heap.get? b=some o) (items:∀ i v mv,P i v→xs[i]? = some mv→VR S.w.params S.C W mv v) (ex:∀ I i h,St I i h→∃ o,h.get? I=some o)
  (walks:∀ I,(∀ b∈fp,b≠I)→∀ A:Around,A.handled=none→Walks S.prog S.w A I (I::fp) [I] xs.length P (St I))
  (h0:∀ I H,H.get? I=some ob→(∀ b o,W.s.heap.get? b=some o→H.get? b=some o)→St I 0 H):Q (.ref W.s.heap.objs.size) { W.s with heap:=W.s.heap.push ob }:=by
 have n:=ajt W.s.heap
 have k:∀ b o,W.s.heap.get? b=some o→(W.s.heap.push ob).get? b=some o:=fun b o e=>Heap.get?_push_of_some _ e
 have g:(W.s.heap.push ob).get? W.s.heap.objs.size=some ob:=Heap.get?_push_size _ hf
 generalize W.s.heap.objs.size=I at n g ⊢
 generalize W.s.heap.push ob=H at k g ⊢
 refine aqn.one (s':={ W.s with heap:=H }) R hQ hm k rfl rfl n g (walks I fun b hb z=>?_) (h0 I H g k) (ex I) (fun b hb hbI=>?_) items
 ·obtain ⟨o,e⟩:=(old b hb).2
  rw [z,n] at e;cases e
 ·rcases List.mem_cons.mp hb with rfl | hb
  ·exact absurd rfl hbI
  ·obtain ⟨d1,o,e⟩:=old b hb
   exact ⟨d1,o,k _ _ e⟩
theorem bZk {M:Model}{A:Around}{E:Value→Shared→Prop}{s:Shared}{T:String}{data:Data}{dict:Option Addr}{Q:Value→Shared→Prop} (hd:sizeOk data) (hf:({ cls:=.type T,dict,data }:Obj).isFreed=false)
  (h:∀ I H,s.heap.get? I=none→(∀ b o,s.heap.get? b=some o→H.get? b=some o)→H.get? I=some { cls:=.type T,dict,data }→Q (.ref I) { s with heap:=H }):wpAny M A (newObj (.type T) data dict) Q E s:=
 wpAny_newObj_type (h _ _ (ajt _) (fun _ _ e=>Heap.get?_push_of_some _ e) (Heap.get?_push_size _ hf)) hd
theorem aX7 {h:Heap}{o:Obj}:∀ b ob,h.get? b=some ob→(h.push o).get? b=some ob:=fun b ob e=>Heap.get?_push_of_some _ e
noncomputable def aq7:MV→M (List MV)
 | .list xs=>ret xs
 | .tup xs=>ret xs
 | .bytes b=>ret (b.map fun c=>.int (c.toNat:Int))
 | .dict es=>aqg (ajn es).Nodup (ret ((ajn es).map MV.bytes))
 | .set xs=>fun st Q _=>∀ ys:List (List UInt8),ys.Perm xs→Q (ys.map MV.bytes) st
 | _=>azk
theorem aZz {P:Params}{C:Addr}{W:Wd}{xs:List MV}{vs:List Value} (h:VRs P C W xs vs):∀ (i:Nat) (v:Value) (mv:MV),vs[i]? = some v→xs[i]? = some mv→VR P C W mv v:=fun i v mv h1 h2=>by
 refine ajl (VRs.get h h2) fun v' q1 q2=>?_
 have:v'=v:=Option.some.inj (q1.symm.trans h1)
 subst this
 exact q2
theorem aKC {prog:Program}{w:World}{h:Heap}{x:Addr}{kvs:List (List UInt8×Value)} (hD:h.DictOf (bytesKind prog w) x kvs):∃ ep,h.DictAt (bytesKind prog w) x kvs ep:=by
 revert hD;refine bQ5 fun o es ep r=>?_
 exact ⟨ep,o,es,r⟩
theorem Walks.setPlaces {prog:Program}{w:World}{A:Around} (hh:A.handled=none) (it a tp:Addr) (hn1:a≠it) (hn2:tp≠it) {o:Obj}{es:Array (Int×Value)}{ep:Nat}{t:SetTable}{ot:Obj}{ps:List Nat}{nt:Nat} (hd:o.data = .set es ep t) (hf:t.fits es.size=true)
  (htd:ot.data = .seq (ps.map fun (p:Nat)=>rawInt p).toArray nt) (hps:∀ j∈ps,j < es.size) :
  Walks prog w A it [it,tp,a] [it] ps.length (fun i v=>((ps.map fun j=>es.getD j default).map (·.2))[i]? = some v) (fun i h=>ajL h it a (.ref tp) i es.size ep∧h.get? tp=some ot∧h.get? a=some o) where
 sub:=fun b hb=>by simp at hb;simp [hb]
 frame:=fun i h h' ⟨⟨oi,z1,z2⟩,z3,z4⟩ hk=>⟨⟨oi,hk it (by simp) _ z1,z2⟩,hk tp (by simp) _ z3,hk a (by simp) _ z4⟩
 item:=fun i s Q E hi st hQ=>by
  revert st;refine bzF fun h1 h2 h3=>?_
  have hj:ps[i]? = some ps[i]:=List.getElem?_eq_getElem hi
  have hlt:=hps _ (List.getElem_mem hi)
  have he:es[ps[i]]? = some es[ps[i]]:=Array.getElem?_eq_getElem hlt
  refine aVW h1 h3 hd hf h2 htd hj he fun h' q1 q2=>?_
  refine hQ _ h' s.toks ?_ ⟨q1,(q2.2 _ hn2).trans h2,(q2.2 _ hn1).trans h3⟩ fun b ob hb e=>(q2.2 b fun z=>hb (by simp [z])).trans e
  rw [List.getElem?_map,List.getElem?_map,hj]
  simp [hlt]
 done:=fun s Q E st hQ=>by
  revert st;refine bzF fun h1 h2 h3=>?_
  exact bz4 hh h1 h3 hd hf h2 htd (List.getElem?_eq_none (Nat.le_refl _)) fun h' q=>hQ h' s.toks fun b ob hb e=>q b ob (fun z=>hb (by simp [z])) e
 self:=fun i s Q E st hQ=>akM st.1 hQ
theorem Walks.setText {prog:Program}{w:World}{A:Around} (hh:A.handled=none) (it a:Addr) (hn1:a≠it) {o:Obj}{es:Array (Int×Value)}{ep:Nat}{t:SetTable} (hd:o.data = .set es ep t) (hf:t.fits es.size=true) (hb:w.params.followText "set-order" = true) :
  Walks prog w A it [it,a] [it] (pickOrder (w.params.setOrder a ep) es).toList.length (fun i v=>((pickOrder (w.params.setOrder a ep) es).toList.map (·.2))[i]? = some v) (fun i h=>ajL h it a (.int (0:Nat) 0) i es.size ep∧h.get? a=some o) where
 sub:=fun b hb=>by simp at hb;simp [hb]
 frame:=fun i h h' ⟨⟨oi,z1,z2⟩,z4⟩ hk=>⟨⟨oi,hk it (by simp) _ z1,z2⟩,hk a (by simp) _ z4⟩
 item:=fun i s Q E hi st hQ=>by
  obtain ⟨h1,h3⟩:=st
  have hx:(pickOrder (w.params.setOrder a ep) es)[i]? = some (pickOrder (w.params.setOrder a ep) es).toList[i]:=by rw [← Array.getElem?_toList];exact List.getElem?_eq_getElem hi
  refine aKf (slot':=0) h1 h3 hd hf (avR h3 hd hf hb ⟨by rw [hx];rfl,rfl⟩) fun h' q1 q2=>?_
  refine hQ _ h' s.toks ?_ ⟨q1,(q2.2 _ hn1).trans h3⟩ fun b ob hb e=>(q2.2 b fun z=>hb (by simp [z])).trans e
  rw [List.getElem?_map,Array.getElem?_toList,hx];rfl
 done:=fun s Q E st hQ=>by
  obtain ⟨h1,h3⟩:=st
  refine aVq hh h1 h3 hd hf (avR h3 hd hf hb ⟨?_,rfl⟩) fun h' q=>hQ h' s.toks fun b ob hb e=>q b ob (fun z=>hb (by simp [z])) e
  rw [← Array.getElem?_toList,List.getElem?_eq_none (Nat.le_refl _)];rfl
 self:=fun i s Q E st hQ=>akM st.1 hQ
theorem Walks.setSmall {prog:Program}{w:World}{A:Around} (hh:A.handled=none) (it a:Addr) (hn1:a≠it) {o:Obj}{es:Array (Int×Value)}{ep:Nat}{t:SetTable} (hd:o.data = .set es ep t) (hf:t.fits es.size=true) (hb:w.params.followText "set-order" = false) (hl:t.led=true) (h1:es.size≤1) :
  Walks prog w A it [it,a] [it] es.toList.length (fun i v=>(es.toList.map (·.2))[i]? = some v) (fun i h=>ajL h it a (.int (if i=0 then 0 else t.place.getD 0 0 + 1:Nat) 0) i es.size ep∧h.get? a=some o) where
 sub:=fun b hb=>by simp at hb;simp [hb]
 frame:=fun i h h' ⟨⟨oi,z1,z2⟩,z4⟩ hk=>⟨⟨oi,hk it (by simp) _ z1,z2⟩,hk a (by simp) _ z4⟩
 item:=fun i s Q E hi st hQ=>by
  obtain ⟨g1,h3⟩:=st
  have hi0:i=0:=by simp at hi;walk_at "O"
  subst hi0
  have hsz:es.size=1:=by simp at hi;walk_at "O"
  have hp:t.place.size=1:=by
   unfold SetTable.fits at hf
   simp at hf;walk_at "O"
  have hx:es[0]? = some (es[0]'(by walk_at "O")):=Array.getElem?_eq_getElem (by walk_at "O")
  have hpl:t.place[0]? = some (t.place[0]'(by walk_at "O")):=Array.getElem?_eq_getElem (by walk_at "O")
  refine aKf (slot':=t.place.getD 0 0 + 1) (x:=(es[0]'(by walk_at "O")).2) g1 h3 hd hf (axW h3 hd hf hb hl h1 ⟨?_,rfl⟩) fun h' q1 q2=>?_
  ·rw [if_pos rfl,bjc,hx,hpl]
   simp [Array.getD,hp]
  refine hQ _ h' s.toks ?_ ⟨q1,(q2.2 _ hn1).trans h3⟩ fun b ob hb e=>(q2.2 b fun z=>hb (by simp [z])).trans e
  rw [List.getElem?_map,Array.getElem?_toList,hx];rfl
 done:=fun s Q E st hQ=>by
  obtain ⟨g1,h3⟩:=st
  refine aVq hh g1 h3 hd hf (axW h3 hd hf hb hl h1 ⟨?_,rfl⟩) fun h' q=>hQ h' s.toks fun b ob hb e=>q b ob (fun z=>hb (by simp [z])) e
  rcases Nat.eq_or_lt_of_le h1 with h1' | h1'
  ·have hp:t.place.size=1:=by
    unfold SetTable.fits at hf
    simp at hf;walk_at "O"
   have hpl:t.place = #[t.place[0]'(by walk_at "O")]:=by
    apply Array.ext
    ·simp [hp]
    ·intro i q1 q2
     have:i=0:=by simp at q2;walk_at "O"
     subst this;simp
   have hb1:SetTable.below t.place (t.place.getD 0 0 + 1)=1:=by
    have:=bzl t.place (t.place[0]'(by walk_at "O")) hpl
    simpa [Array.getD,hp] using this
   rw [if_neg (by rw [Array.length_toList];walk_at "O"),hb1]
   have:es[1]? = none:=Array.getElem?_eq_none (by walk_at "O")
   rw [this]
  ·have:es.size=0:=by walk_at "O"
   have e0:∀ j:Nat,es[j]? = none:=fun j=>Array.getElem?_eq_none (by walk_at "O")
   rw [e0]
 self:=fun i s Q E st hQ=>akM st.1 hQ
inductive ItC (st:MSt) (Q:List MV→MSt→Prop):MV→Prop
 | list (xs) (h:Q xs st):ItC st Q (.list xs)
 | tup (xs) (h:Q xs st):ItC st Q (.tup xs)
 | bytes (b) (h:Q (b.map fun c=>.int (c.toNat:Int)) st):ItC st Q (.bytes b)
 | dict (es) (hn:(ajn es).Nodup) (h:Q ((ajn es).map MV.bytes) st):ItC st Q (.dict es)
 | set (xs) (h:∀ ys:List (List UInt8),ys.Perm xs→Q (ys.map MV.bytes) st):ItC st Q (.set xs)
theorem bkE {a:MV}{st:MSt}{Q:List MV→MSt→Prop}{E:Value→MSt→Prop} (h:aq7 a st Q E):ItC st Q a:=by
 cases a<;>first | exact h.elim | skip
 ·exact .bytes _ h
 ·exact .list _ h
 ·exact .tup _ h
 ·exact .dict _ h.1 h.2
 ·exact .set _ h
theorem bZR {W:Wd}{x:Addr} (h:¬ W.D x∧∃ o,W.s.heap.get? x=some o):∀ b∈[x],¬ W.D b∧∃ o,W.s.heap.get? b=some o:=fun b hb=>by rw [List.mem_singleton.mp hb];exact h
theorem aqn.set {cx:Cx}{A:Around}{W:Wd}{st:MSt}{QM:List MV→MSt→Prop}{Q:Value→Shared→Prop}{E:Value→Shared→Prop}{xs:List (List UInt8)}{u:Value} (hh:A.handled=none) (R:Rel S cx W st) (va:VR S.w.params S.C W (.set xs) u) (hQ:IOk S cx W QM Q)
  (hm:∀ ys:List (List UInt8),ys.Perm xs→QM (ys.map MV.bytes) st):wpAny (model S.prog S.w) A (pyIter u) Q E W.s:=by
 obtain ⟨x,o,hd,ho,hex,es,ep,t,hdt,⟨ks,hperm,hes⟩,hnd,hb,hf,hled,hplain⟩:=bZO va
 have hT:W.s.TypeIs (.ref x) "set":=⟨o,ho,hex.1⟩
 have fin:∀ (s':Shared) (oI:Obj) (I:Addr) (fp:List Addr) (es':List (Int×Value)) (St:Nat→Heap→Prop),(∀ b ob,W.s.heap.get? b=some ob→s'.heap.get? b=some ob)→s'.gens=W.s.gens→s'.os=W.s.os→W.s.heap.get? I=none→s'.heap.get? I=some oI→
   es'.Perm es.toList→(∀ A:Around,A.handled=none→Walks S.prog S.w A I fp [I] es'.length (fun i v=>(es'.map (·.2))[i]? = some v) St)→St 0 s'.heap→(∀ i h,St i h→∃ ob,h.get? I=some ob)→(∀ b∈fp,b≠I→¬ W.D b∧∃ ob,s'.heap.get? b=some ob)→Q (.ref I) s':=fun s' oI I fp es' St z1 z2 z3 z4 z5 z6 z7 z8 z9 z10=>by
  refine ajl (aqW.perm z6.symm hes) fun ks' k1 k2=>?_
  have hlen:(ks'.map MV.bytes).length=es'.length:=by rw [List.length_map,k2.length]
  exact aqn.one (s':=s') R hQ (hm ks' (k1.symm.trans hperm)) z1 z2 z3 z4 z5 (fun A' hh'=>by rw [hlen];exact z7 A' hh') z8 z9 z10 (aZz (aqW.vrs k2))
 clear hQ hm hperm hes hnd va
 have xne:∀ {I},W.s.heap.get? I=none→x≠I:=fun n z=>by rw [← z,ho] at n;cases n
 have rox:∀ {I:Addr}{H:Heap},(∀ b ob,W.s.heap.get? b=some ob→H.get? b=some ob)→∀ b∈[I,x],b≠I→¬ W.D b∧∃ ob,H.get? b=some ob:=fun {I H} k b hb hbI=>by
  rcases List.mem_cons.mp hb with rfl | hb
  ·exact absurd rfl hbI
  ·rw [List.mem_singleton.mp hb];exact ⟨hd,o,k _ _ ho⟩
 refine wpAny_pyIter_slot hT PySem.F.slot_set_iter (wpAny_call_entry PySem.F.slot_set_iter hT SI.entry_iter ?_ (SI.args_iter _))
 refine wpAny_bind (m:=Builtin.Frozenset.slot0 "__iter__" _) (wpAny_of_eq (a:=x) rfl ?_)
 refine wpAny_bind (wpAny_bind (azl ho hdt hf (wpAny_pure ?_)))
 refine wpAny_bind (wpAny_bind (wpAny_setState_of ho hdt hf ?_))
 refine wpAny_bind (wpAny_bind (wpAny_askSetting (wpAny_pure ?_)))
 dsimp only
 refine wpAny_pure ?_
 cases hbt:S.w.params.followText "set-order" with
 | true=>
  rw [if_neg (by rw [show (model S.prog S.w).w.params.followText "set-order" = true from hbt];simp)]
  refine wpAny_bind (wpAny_pure ?_)
  refine wpAny_bind (wpAny_bind (wpAny_setState_of ho hdt hf (wpAny_pure ?_)))
  dsimp only
  refine wpAny_bind (bZk (by size_fits) rfl fun I H n k g=>wpAny_pure ⟨_,rfl,"set_iterator",_,⟨_,g,rfl⟩,SI.slot_next.lookup,?_⟩)
  exact fin { W.s with heap:=H } _ I [I,x] (pickOrder (S.w.params.setOrder x ep) es).toList _ k rfl rfl n g (aQb _ _) (fun A' hh'=>Walks.setText hh' _ x (xne n) hdt hf hbt)
   ⟨⟨_,g,rfl,by simp [rawInt]⟩,k _ _ ho⟩ (fun i h hst=>Exists.elim hst.1 fun ob q=>⟨ob,q.1⟩) (rox k)
 | false=>
  have hl:t.led=true:=hled.resolve_right (by rw [hbt];simp)
  refine wpAny_ite_split (fun hc=>?_) fun hc=>?_
  ·refine wpAny_bind (aQW _ _ _ _ List.length_range.symm fun ps dr hps=>?_)
   refine wpAny_bind (bZk (by
    show (ps.map fun (i:Nat)=>rawInt i).toArray.size≤sizeLine
    rw [List.size_toArray,List.length_map,hps.length_eq,List.length_range,sizeLine_eq]
    have:scanBound=4096:=rfl
    walk_at "O") rfl fun T H1 n1 k1 g1=>?_)
   refine wpAny_bind (wpAny_bind (wpAny_setState_of (k1 _ _ ho) hdt hf (wpAny_pure ?_)))
   dsimp only
   refine wpAny_bind (bZk (by size_fits) rfl fun I H n k g=>wpAny_pure ⟨_,rfl,"set_iterator",_,⟨_,g,rfl⟩,SI.slot_next.lookup,?_⟩)
   dsimp only at n k g
   have k2:∀ b ob,W.s.heap.get? b=some ob→H.get? b=some ob:=fun b ob e=>k _ _ (k1 _ _ e)
   have n2:W.s.heap.get? I=none:=by
    cases q:W.s.heap.get? I with
    | none=>rfl
    | some ob=>rw [k1 _ _ q] at n;cases n
   have hTI:T≠I:=fun z=>by rw [← z,g1] at n;cases n
   generalize hot:({ cls:=.type "tuple",data:=.seq (ps.map fun (i:Nat)=>rawInt i).toArray }:Obj)=ot at g1
   refine fin { W.s with heap:=H,drawn:=dr } _ I [I,T,x] (ps.map fun j=>es.getD j default) (fun i h=>ajL h I x (.ref T) i es.size ep∧h.get? T=some ot∧h.get? x=some o) k2 rfl rfl n2 g ?_
    (fun A' hh'=>by
     rw [List.length_map]
     exact Walks.setPlaces hh' I x T (xne n2) hTI hdt hf (by rw [← hot]) fun j hj=>List.mem_range.mp (hps.mem_iff.mp hj))
    ⟨⟨_,g,rfl,by simp [rawInt]⟩,k _ _ g1,k2 _ _ ho⟩ (fun i h hst=>Exists.elim hst.1 fun ob q=>⟨ob,q.1⟩) fun b hb hbI=>?_
   ·refine (hps.map _).trans (List.Perm.of_eq ?_)
    apply List.ext_getElem
    ·simp
    ·intro i q1 q2
     have:i < es.size:=by simpa using q2
     simp [this]
   ·rcases List.mem_cons.mp hb with rfl | hb
    ·exact absurd rfl hbI
    ·rcases List.mem_cons.mp hb with rfl | hb
     ·exact ⟨fun q=>(by obtain ⟨o',e'⟩:=R.dlt _ q;rw [n1] at e';cases e'),_,k _ _ g1⟩
     ·rw [List.mem_singleton.mp hb];exact ⟨hd,o,k2 _ _ ho⟩
  ·have hsm:es.size≤1:=by
    by_cases hp:t.plain=true
    ·rw [hplain hp];simp
    ·have hc':¬ ((!t.plain && decide (es.size > 1))=true):=fun q=>hc (by
      rw [show (model S.prog S.w).w.params.followText "set-order" = false from hbt]
      exact q)
     simp at hp hc'
     exact hc' hp
   refine wpAny_bind (wpAny_pure ?_)
   refine wpAny_bind (wpAny_bind (wpAny_setState_of ho hdt hf (wpAny_pure ?_)))
   dsimp only
   refine wpAny_bind (bZk (by size_fits) rfl fun I H n k g=>wpAny_pure ⟨_,rfl,"set_iterator",_,⟨_,g,rfl⟩,SI.slot_next.lookup,?_⟩)
   exact fin { W.s with heap:=H } _ I [I,x] es.toList _ k rfl rfl n g (.refl _) (fun A' hh'=>Walks.setSmall hh' _ x (xne n) hdt hf hbt hl hsm)
    ⟨⟨_,g,rfl,by simp [rawInt]⟩,k _ _ ho⟩ (fun i h hst=>Exists.elim hst.1 fun ob q=>⟨ob,q.1⟩) (rox k)
theorem aqn.all:aqn S d aq7:=by
 intro cx A W st QM EM Q E a u hA R va hm hQ hE
 have hc:=bkE hm
 clear hm
 cases hc with
 | list xs hm=>
  obtain ⟨x,vs,hd,hl,hv⟩:=aJa va
  refine wpAny_pyIter_list hl (aqn.push (fp:=[x]) (P:=fun i v=>vs.toArray[i]? = some v) (fun I i h=>h.IsListIter I x i∧h.IsList x vs.toArray) rfl R hQ hm (bZR ⟨hd,Exists.elim hl fun o ho=>⟨o,ho.1⟩⟩) (fun i v mv h1 h2=>aZz hv i v mv (by simpa using h1) h2)
   (fun I i h hst=>Exists.elim hst.1 fun o ho=>⟨o,ho.1⟩) (fun I hI A' hh'=>by rw [← VRs.length hv,← List.size_toArray];exact Walks.list hh' I x (hI x (.head _)) vs.toArray) fun I H g k=>⟨⟨_,g,rfl,rfl⟩,Exists.elim hl fun o ho=>⟨o,k _ _ ho.1,ho.2⟩⟩)
 | tup xs hm=>
  obtain ⟨x,vs,hd,hl,hv⟩:=bzG va
  refine wpAny_pyIter_tuple hl (aqn.push (fp:=[x]) (P:=fun i v=>vs.toArray[i]? = some v) (fun I i h=>h.IsTupleIter I x i∧h.IsTuple x vs.toArray) rfl R hQ hm (bZR ⟨hd,Exists.elim hl fun o ho=>⟨o,ho.1⟩⟩) (fun i v mv h1 h2=>aZz hv i v mv (by simpa using h1) h2)
   (fun I i h hst=>Exists.elim hst.1 fun o ho=>⟨o,ho.1⟩) (fun I hI A' hh'=>by rw [← VRs.length hv,← List.size_toArray];exact Walks.tuple hh' I x (hI x (.head _)) vs.toArray) fun I H g k=>⟨⟨_,g,rfl,rfl⟩,Exists.elim hl fun o ho=>⟨o,k _ _ ho.1,ho.2⟩⟩)
 | bytes b hm=>
  obtain ⟨t,rfl⟩:=ajz va
  refine KBw.pyIter_bytes (aqn.push (fp:=[]) (P:=fun i v=>∃ c u,b.toArray[i]? = some c∧v = .int (c.toNat:Int) u) (fun I i h=>KBw.IsBytesIter h I b.toArray t i) rfl R hQ hm (fun b hb=>nomatch hb) (fun i v mv h1 h2=>?_)
   (fun I i h hst=>Exists.elim hst fun o ho=>⟨o,ho.1⟩) (fun I hI A' hh'=>by
    have:=KBw.walks (prog:=S.prog) (w:=S.w) hh' I b.toArray t
    simpa using this) fun I H g k=>⟨_,g,rfl,rfl⟩)
  revert h1;refine aq2 fun c u q1 e0_=>?_;subst e0_
  have q1':b[i]? = some c:=by simpa using q1
  rw [List.getElem?_map,q1'] at h2
  cases h2
  exact aZY
 | dict es hnd hm=>
  refine aZo (aqv (es:=es) R va rfl hnd) fun x kvs hu hs hD hk=>?_
  subst hu
  obtain ⟨_,o0,ds0,ep0,hd0,_,ho0,_,_,_⟩:=bk6 va
  obtain ⟨ep,hat⟩:=aKC hD
  have hlen:((ajn es).map MV.bytes).length=kvs.length:=by simp [hk.length]
  refine wpAny_pyIter_dict hs hat (aqn.push (fp:=[x]) (P:=fun i v=>∃ k x,kvs[i]? = some (k,x)∧(bytesKind S.prog S.w).is k v=true) (fun I i h=>h.IsKeyIter I x i kvs.length ep∧h.DictAt (bytesKind S.prog S.w) x kvs ep) rfl R hQ hm (bZR ⟨hd0,_,ho0⟩) (fun i v mv h1 h2=>?_)
   (fun I i h hst=>Exists.elim hst.1 fun o ho=>⟨o,ho.1⟩) (fun I hI A' hh'=>by rw [hlen];exact Walks.dictKeys hh' I x (hI x (.head _)) kvs ep) fun I H g k=>⟨⟨_,g,rfl,rfl⟩,?_⟩)
  ·revert h1;refine aq2 fun k y q1 q2=>?_
   obtain ⟨t,rfl⟩:=isBytes_shape q2
   have:(kvs.map (·.1))[i]? = some k:=by rw [List.getElem?_map,q1];rfl
   rw [hk.keys] at this
   rw [List.getElem?_map,this] at h2
   cases h2
   exact azA
  ·obtain ⟨o',es',ho',r⟩:=hat
   exact ⟨o',es',k _ _ ho',r⟩
 | set xs hm=>exact aqn.set hA.handled R va hQ hm
end
end Mine
end
section
namespace Mine
open PySem PySem.W PyProof.Rows PySem.Calls
section
variable {S:ajA}{g:Sig}{d:Nat}
noncomputable def avW:List MV→Option (List Int)
 | []=>some []
 | x::r=>(aQn x).bind fun i=>(avW r).map (i::·)
noncomputable def bxp (n:MV):M (List MV):=aQc n fun n st Q _=>0≤n∧n≤1000∧Q ((List.range n.toNat).map fun i:Nat=>MV.int (i:Int)) st
noncomputable def bxo (a b c:MV):M (List MV):=aQc a fun a=>aQc b fun b=>aQc c fun c st Q _=>a=0∧0≤b∧b≤1000∧c=2∧Q ((List.range ((b.toNat + 1) / 2)).map fun i:Nat=>MV.int (2 * (i:Int))) st
noncomputable def axB:List MV→M (List MV)
 | [n]=>bxp n
 | [a,b,c]=>bxo a b c
 | _=>azk
theorem bk3 {as:List MV}{st:MSt}{Q:List MV→MSt→Prop}{E:Value→MSt→Prop} (h:axB as st Q E):(∃ n,as=[.int n]∧0≤n∧n≤1000∧Q ((List.range n.toNat).map fun i:Nat=>MV.int (i:Int)) st)∨
  ∃ b,as=[.int 0,.int b,.int 2]∧0≤b∧b≤1000∧Q ((List.range ((b.toNat + 1) / 2)).map fun i:Nat=>MV.int (2 * (i:Int))) st:=by
 rcases as with _ | ⟨a,_ | ⟨b,_ | ⟨c,_ | ⟨x,r⟩⟩⟩⟩
 ·exact h.elim
 ·refine ajl (azn (show bxp a st Q E from h)) fun n e1_ h1=>?_;subst e1_;exact .inl ⟨n,rfl,h1⟩
 ·exact h.elim
 ·refine ajl (azn (show bxo a b c st Q E from h)) fun x e2_ h1=>?_;subst e2_
  refine ajl (azn h1) fun y e3_ h2=>?_;subst e3_
  refine ajl (azn h2) fun z e4_ r5_=>?_;subst e4_;obtain ⟨rfl,h3,h4,rfl,h5⟩:=r5_
  exact .inr ⟨y,rfl,h3,h4,h5⟩
 ·exact h.elim
theorem bxk {b c:Int} (h0:0≤b) (h1:b≤1000) (hc:c=1∨c=2):Builtin.Range.small 0 b c=true:=by
 unfold Builtin.Range.small Builtin.Range.rangeSize Builtin.Range.rangeFitsLong
 rcases hc with rfl | rfl
 ·simp only [show (1:Int) > 0 by decide,if_true]
  by_cases hb:(0:Int) < b
  ·simp [hb];walk_at "O"
  ·simp [hb];walk_at "O"
 ·simp only [show (2:Int) > 0 by decide,if_true]
  by_cases hb:(0:Int) < b
  ·simp [hb];walk_at "O"
  ·simp [hb];walk_at "O"
theorem ak9.range {x:Str}{np pos:Pos}{es:List Expr}{ma:M (List MV)} (hn:Nm S g (.Name x np) (.type "range")) (hs:es.all ajr=true) (ha:ajw S g d pos es ma) :
  ak9 S g d (.Call (.Name x np) es [] pos) (bnd ma axB):=by
 intro cx A W st QM EM Q E hg hA R hm hQ hE
 refine wpAny_Call_ofName (hn cx A W st _ _ hg R (PyProof.Rows.callWith_type (aqk hs) (aq9 hs (az7.then ha hg hA R hm (fun W₁ st₁ as us l₁ R₁ vas hm₁=>?_) hE))))
 have key:∀ (a b c:Int) (t u v:Tok) (k n:Nat) (xs:List MV),(∀ (i:Nat) (mv:MV),xs[i]? = some mv→mv = .int (a + i * c))→xs.length=n→Builtin.Range.small a b c=true→Builtin.Range.rangeSize a b c=n→QM xs st₁→
   wpAny (model S.prog S.w) A (pyIter (.ref W₁.s.heap.objs.size)) Q E { W₁.s with heap:=W₁.s.heap.push { cls:=.type "range",data:=.fields #[.int a t,.int b u,.int c v] },toks:=k }:=fun a b c t u v k n xs hx hlen hsm hrs hq=>by
  have hr:IsRange (W₁.s.heap.push { cls:=.type "range",data:=.fields #[.int a t,.int b u,.int c v] }) W₁.s.heap.objs.size a b c t u v:=IsRange.new ..
  refine wpAny_pyIter_range hr hsm ?_
  have k1:∀ p o,W₁.s.heap.get? p=some o→(W₁.s.heap.push { cls:=.type "range",data:=.fields #[.int a t,.int b u,.int c v] }).get? p=some o:=aX7
  rw [hrs]
  clear hr
  generalize W₁.s.heap.push { cls:=.type "range",data:=.fields #[.int a t,.int b u,.int c v] }=H1 at k1 ⊢
  have n2:W₁.s.heap.get? H1.objs.size=none:=by
   cases q:W₁.s.heap.get? H1.objs.size with
   | none=>rfl
   | some ob=>have:=k1 _ _ q;rw [ajt] at this;cases this
  have k2:∀ p o,W₁.s.heap.get? p=some o→(H1.push { cls:=.type "range_iterator",data:=.fields #[rawInt a,rawInt (n:Nat),rawInt c] }).get? p=some o:=fun p o q=>aX7 _ _ (k1 _ _ q)
  have g:=Heap.get?_push_size H1 (o:={ cls:=.type "range_iterator",data:=.fields #[rawInt a,rawInt (n:Nat),rawInt c] }) rfl
  dsimp only
  generalize H1.objs.size=I at n2 g ⊢
  generalize H1.push { cls:=.type "range_iterator",data:=.fields #[rawInt a,rawInt (n:Nat),rawInt c] }=H at k2 g ⊢
  refine aqn.one (s':={ W₁.s with heap:=H,toks:=k }) (fp:=[I]) (P:=fun i v=>∃ t,v = .int (a + i * c) t) R₁ (hQ.tr l₁) hq k2 rfl rfl n2 g (fun A' hh'=>by rw [hlen];exact Walks.range hh' _ a c n)
   (by show IsRangeIter _ _ _ _ _;simpa using g) (fun i h hst=>⟨_,hst⟩) (fun b hb hbI=>absurd (List.mem_singleton.mp hb) hbI) (fun i v mv h1 h2=>?_)
  obtain ⟨t',rfl⟩:=h1
  rw [hx i mv h2]
  exact aZY
 rcases bk3 hm₁ with ⟨n,rfl,h0,h1,hq⟩ | ⟨b,rfl,h0,h1,hq⟩<;>clear hm₁
 ·refine ajl (bZc vas) fun v e6_ hv=>?_;subst e6_
  obtain ⟨t,rfl⟩:=aJn hv
  refine call_range_1 (key 0 n 1 _ _ _ _ n.toNat _ ?_ (by simp) ?_ ?_ hq)
  ·intro i mv h
   rw [List.getElem?_map] at h
   cases hr:(List.range n.toNat)[i]? with
   | none=>rw [hr] at h;cases h
   | some j=>
    rw [hr] at h;cases h
    have:j=i:=by
     have:=List.getElem?_eq_some_iff.mp hr
     obtain ⟨_,q⟩:=this
     simpa using q.symm
    subst this;simp
  ·exact bxk h0 h1 (.inl rfl)
  ·rw [rangeSize_one];split<;>walk_at "O"
 ·refine av2 (bXe vas) fun v1 v2 v3 e0_ r1_=>?_;subst e0_;obtain ⟨hv1,hv2,hv3⟩:=r1_
  obtain ⟨t1,rfl⟩:=aJn hv1;obtain ⟨t2,rfl⟩:=aJn hv2;obtain ⟨t3,rfl⟩:=aJn hv3
  refine call_range_3 (by decide) (key 0 b 2 _ _ _ _ ((b.toNat + 1) / 2) _ ?_ (by simp) ?_ ?_ hq) (.inl ?_)
  ·intro i mv h
   rw [List.getElem?_map] at h
   cases hr:(List.range ((b.toNat + 1) / 2))[i]? with
   | none=>rw [hr] at h;cases h
   | some j=>
    rw [hr] at h;cases h
    have:j=i:=by
     have:=List.getElem?_eq_some_iff.mp hr
     obtain ⟨_,q⟩:=this
     simpa using q.symm
    subst this
    have e:(2 * (j:Int))=0 + (j:Int) * 2:=by walk_at "O"
    show MV.int (2 * (j:Int))=_
    rw [e]
  ·exact bxk h0 h1 (.inr rfl)
  ·unfold Builtin.Range.rangeSize
   simp only [show (2:Int) > 0 by decide,if_true]
   split<;>walk_at "O"
  ·exact PyProof.noPylong_small (by decide)
end
end Mine
end
section
namespace Mine
open PySem PySem.W PyProof.Rows PySem.Calls
section
variable {prog:Program}{w:World}{A:Around}{E:Value→Shared→Prop}{s:Shared}{b:Array UInt8}{t:Tok}
theorem aKg {it:Addr}{i:Nat}{c:UInt8}{Q:Value→Shared→Prop} (hit:KBw.IsBytesIter s.heap it b t i) (hx:b[i]? = some c)
  (hQ:∀ h',KBw.IsBytesIter h' it b t (i + 1)→Heap.SameBut it s.heap h'→Q (.int (c.toNat:Int) s.toks) { s with heap:=h',toks:=s.toks + 1 }):wpAny (model prog w) A (Builtin.SmallTypes.nextOf (.ref it)) Q E s:=by
 refine aKb (id hit) fun o ho hc hd=>?_
 refine wpAny_bind (wpAny_callSpecial?_slot (name:=PySem.Str.ofString "__next__") (KBw.iter_typeIs hit) KBw.slot_next
  (wpAny_call_entry KBw.slot_next (KBw.iter_typeIs hit) KBw.entry_next ?_ (KBw.args_next _)))
 show wpAny _ _ (field (.ref it) 0>>=_) _ _ s
 refine wpAny_bind (wpAny_field ho hd (x:=.bytes b t) rfl ?_)
 show wpAny _ _ (if (Value.bytes b t == Value.none)=true then _ else _) _ _ s
 rw [if_neg (show ¬ ((Value.bytes b t == Value.none)=true) from Bool.false_ne_true)]
 show wpAny _ _ (field (.ref it) 1>>=_) _ _ s
 refine wpAny_bind (wpAny_field ho hd (x:=.int i 0) rfl ?_)
 refine wpAny_bind (wpAny_of_eq (a:=b) rfl ?_)
 simp only [Int.toNat_natCast,hx]
 refine wpAny_bind (wpAny_setField ho hd (by simp) (wpAny_bind (wpAny_mkInt (wpAny_pure ⟨_,rfl,wpAny_pure (hQ _ ?_ (Heap.SameBut.update ..))⟩))))
 exact ⟨_,Heap.get?_update_self _ ho (Obj.isFreed_of_fields (Obj.data_mapFields hd _)),(Obj.cls_mapFields ..).trans hc,by
  rw [Obj.data_mapFields hd];simp [rawInt]⟩
theorem aJb {it:Addr}{i:Nat}{Q:Value→Shared→Prop} (hh:A.handled=none) (hit:KBw.IsBytesIter s.heap it b t i) (hx:b[i]? = none)
  (hE:∀ h' e,Heap.ExtBut it s.heap h'→(∃ o,h'.get? e=some o∧o.cls = .type "StopIteration")→E (.ref e) { s with heap:=h' }):wpAny (model prog w) A (Builtin.SmallTypes.nextOf (.ref it)) Q E s:=by
 refine aKb (id hit) fun o ho hc hd=>?_
 refine wpAny_bind (wpAny_callSpecial?_slot (name:=PySem.Str.ofString "__next__") (KBw.iter_typeIs hit) KBw.slot_next
  (wpAny_call_entry KBw.slot_next (KBw.iter_typeIs hit) KBw.entry_next ?_ (KBw.args_next _)))
 show wpAny _ _ (field (.ref it) 0>>=_) _ _ s
 refine wpAny_bind (wpAny_field ho hd (x:=.bytes b t) rfl ?_)
 show wpAny _ _ (if (Value.bytes b t == Value.none)=true then _ else _) _ _ s
 rw [if_neg (show ¬ ((Value.bytes b t == Value.none)=true) from Bool.false_ne_true)]
 show wpAny _ _ (field (.ref it) 1>>=_) _ _ s
 refine wpAny_bind (wpAny_field ho hd (x:=.int i 0) rfl ?_)
 refine wpAny_bind (wpAny_of_eq (a:=b) rfl ?_)
 simp only [Int.toNat_natCast,hx]
 refine wpAny_bind (wpAny_rule (wpAny_bind (wpAny_setField ho hd (by simp) ?_)))
 exact bva (by exact hh) fun h' e hk he=>hE h' e (fun b o hb eb=>hk b o ((Heap.get?_update_other _ _ (Ne.symm hb)).trans eb)) he
theorem Draws.bytes (hh:A.handled=none) (it:Addr) (b:Array UInt8) (t:Tok) :
  Draws prog w A it [it] b.size (fun i v=>∃ c u,b[i]? = some c∧v = .int (c.toNat:Int) u) (fun i h=>KBw.IsBytesIter h it b t i) where
 live:=fun i h ⟨o,ho,_⟩=>⟨o,ho⟩
 frame:=fun i h h' ⟨o,ho,r⟩ hk=>⟨o,hk it (by simp) o ho,r⟩
 item:=fun i s Q E hi st hQ=>aKg st (c:=b[i]) (by simp [hi]) fun h' hit' hs'=>hQ _ h' (s.toks + 1) ⟨_,_,by simp [hi],rfl⟩ hit' hs'
 done:=fun s Q E st hE=>aJb hh st (by simp) hE
theorem bx6 {α : Type}{M:Model}{A:Around}{x : α}{Q : α→Shared→Prop}{E:Value→Shared→Prop}{s:Shared} (h:∀ y,Q y s):wpAny M A (pure x) Q E s:=wpAny_pure (h x)
set_option maxHeartbeats 1000000 in
theorem ax1 (b:Array UInt8) (t:Tok) :
  Meets (Builtin.«enumerate.__new__» ⟨[.type "enumerate",.bytes b t],[]⟩) (fun _ R s=>
   R (.ok (.ret (.ref (s.heap.push { cls:=.type "bytes_iterator",data:=.fields #[.bytes b t,.int 0 0] }).objs.size)))
    {s with heap:=(s.heap.push { cls:=.type "bytes_iterator",data:=.fields #[.bytes b t,.int 0 0] }).push { cls:=.type "enumerate",data:=.fields #[.none,.bool false,.ref s.heap.objs.size,rawInt 0,.none,.none] } }):=
 .of_wp fun prog w A R s h=>by
  obtain ⟨hp,g,d,tk,os⟩:=s
  have hsub:=sub_enumerate
  wp_walk
  refine wpAny_stack_any fun st=>bx6 fun q=>?_
  cases q
  ·wp_walk using KBw.pyIter_bytes
   exact ⟨_,rfl,h⟩
  ·wp_walk using KBw.pyIter_bytes
   exact ⟨_,rfl,h⟩
theorem axy {Q:Value→Shared→Prop}
  (h:∀ h',IsEnum h' (s.heap.objs.size + 1) s.heap.objs.size 0 .none→KBw.IsBytesIter h' s.heap.objs.size b t 0→
   (∀ b o,s.heap.get? b=some o→h'.get? b=some o)→Q (.ref (s.heap.objs.size + 1)) { s with heap:=h' }) :
  wpAny (model prog w) A (call (.type "enumerate") [.bytes b t]) Q E s:=by
 refine callType_new F.called_enumerate (by decide) (F.typeCall_enumerate_1 _) (F.newCall_enumerate_1 _) (fun obj=>F.args_object_init_2 obj _) F.entry_enumerate_new
  (ax1 b t) ?_
 have hz:(s.heap.push { cls:=.type "bytes_iterator",data:=.fields #[.bytes b t,.int 0 0] }).objs.size=s.heap.objs.size + 1:=Heap.size_push ..
 show _∧_
 rw [hz]
 have he:IsEnum ((s.heap.push { cls:=.type "bytes_iterator",data:=.fields #[.bytes b t,.int 0 0] }).push
   {cls:=.type "enumerate",data:=.fields #[.none,.bool false,.ref s.heap.objs.size,rawInt 0,.none,.none] }) (s.heap.objs.size + 1) s.heap.objs.size 0 .none:=by
  have:=Heap.get?_push_size (s.heap.push { cls:=.type "bytes_iterator",data:=.fields #[.bytes b t,.int 0 0] })
   (o:={ cls:=.type "enumerate",data:=.fields #[.none,.bool false,.ref s.heap.objs.size,rawInt 0,.none,.none] }) rfl
  rw [hz] at this;exact this
 exact ⟨⟨_,he,rfl⟩,h _ he ⟨_,Heap.get?_push_of_some _ (Heap.get?_push_size _ rfl),rfl,rfl⟩ fun b o y=>Heap.get?_push_of_some _ (Heap.get?_push_of_some _ y)⟩
end
section
variable {S:ajA}{g:Sig}{d:Nat}
noncomputable def aXE (b:List UInt8):List MV:=(List.range b.length).map fun i:Nat=>MV.tup [.int i,.int ((b.getD i 0).toNat:Int)]
theorem bKu {te:List Expr}{tk:Nat}{tp:Pos}{body:List Stmt}{mt:MV→M Unit}{mb:M MF}{cx:Cx}{A:Around}{W₁ W₂:Wd}{st₂:MSt}{QM:MF→MSt→Prop}{EM:Value→MSt→Prop}{Q:Flow→Shared→Prop}{E:Value→Shared→Prop}{ps:List (Addr×Obj)}{I:Addr}{wr:List Addr}{xs:List MV}{Pt:Nat→Array Value→Prop}{St:Nat→Heap→Prop}{Mid:Nat→Addr→Heap→Prop}
  (ht:aJ4 S g d (fun env v=>assign (Expr.Tuple te tk tp) env v) mt) (hb:aj1 S g d body mb) (hg:g.fits cx) (hA:AOK cx d A) (hQ:QOk S cx (FR S.w.params S.C) W₁ QM Q) (hE:EOk S cx W₁ EM E) (l₂:Le W₁ W₂) (R₂:Rel S (cx.pin ps) W₂ st₂)
  (hps:ps.map (·.1)=wr) (hap:∀ p∈cx.pins,p.1∉wr) (hW:WalksT S.prog S.w A I wr wr xs.length Pt St Mid) (hst:St 0 W₂.s.heap) (ex:∀ i h,St i h→∀ b∈wr,∃ o,h.get? b=some o)
  (items:∀ i vals,Pt i vals→∃ ys,xs[i]? = some (.tup ys)∧∀ W,VRs S.w.params S.C W ys vals.toList) (hm:aqu xs mt mb st₂ QM EM) :
  codeAny (model S.prog S.w) A (.forLoop (.Tuple te tk tp) (.ref I) body [] cx.env) (fun r s'=>match r with | .ok f=>Q f s' | .error e=>cameBackBy (model S.prog S.w) A cx.env E e s') W₂.s:=by
 refine codeAny_forLoop_any (I:=bZf S cx W₁ wr St xs mt mb QM EM) ?_ xs.length (.mk 0 W₂ st₂ ps (Nat.zero_le _) l₂ R₂ hps hst hm)
 intro k s' hinv
 obtain ⟨i,W',st',ps',hle,l',R',hps',hst,hm'⟩:=hinv
 have hap':∀ p∈cx.pins,p.1∉ps'.map (·.1):=by rw [hps'];exact hap
 rcases Nat.lt_or_ge i xs.length with hi' | hi'
 ·refine hW.item i W'.s _ _ hi' hst fun T vals h' tk2 hP hT htup hmid hkeep=>?_
  refine hW.go te tk tp i T _ _ _ hmid fun h'' hst'' hkeep''=>?_
  have hTn:W'.s.heap.get? T=none:=Heap.get?_none_of_le hT
  revert htup;refine azC fun oT hoT hoTr=>?_
  have hoT2:h''.get? T=some oT:=hkeep'' _ _ (hW.apart i T h' hmid) hoT
  refine ajl (aZe (l:=wr) (h:=h'') (ex _ _ hst'')) fun ps'' q1 q2=>?_
  obtain ⟨l'',R''⟩:=R'.repin (s':={ W'.s with heap:=h'',toks:=tk2 }) (ps':=ps'') (fun b' o hb e=>hkeep'' b' o (by rw [← hps'];exact hb) (hkeep b' o (by rw [← hps'];exact hb) e)) R'.gens rfl (q1.trans hps'.symm) q2 hap'
  obtain ⟨ys,hx,hys⟩:=items i vals hP
  rw [List.drop_eq_getElem_cons hi',(List.getElem?_eq_some_iff.mp hx).2] at hm'
  refine bJU ht hb hg hA hQ hE (l'.trans l'') R'' (v:=.ref T) (bZC ⟨T,vals.toList,fun q=>?_,⟨oT,hoT2,hoTr⟩,hys _⟩) hm' (fun W4 st4 f' hf l3 R4 hm4=>?_) (fun _ h=>h) (fun _ _ h=>h)
  ·obtain ⟨o,e⟩:=R'.dlt _ q;rw [hTn] at e;cases e
  have keepSt:St (i + 1) W4.s.heap:=hW.frame (i + 1) h'' W4.s.heap hst'' fun b' hb' o e=>by
   refine ajl (List.mem_map.mp (show b'∈ps''.map (·.1) from q1 ▸ hb')) fun p hp e4_=>?_;subst e4_
   have e2:=q2 p hp
   rw [e] at e2;cases e2
   exact (R4.pins p (List.mem_append_left _ hp)).2.1
  have z:∃ m,m < xs.length - i∧bZf S cx W₁ wr St xs mt mb QM EM m W4.s:=⟨xs.length - (i + 1),by walk_at "O",.mk (i + 1) W4 st4 ps'' hi' (l'.trans (l''.trans l3)) R4 q1 keepSt hm4⟩
  rcases hf with rfl | rfl<;>exact z
 ·obtain rfl:i=xs.length:=Nat.le_antisymm hle hi'
  refine hW.done W'.s _ _ hst fun h' tk2 hkeep=>?_
  have hdead:∀ b' o,b'∉ps'.map (·.1)→W'.s.heap.get? b'=some o→h'.get? b'=some o:=by rw [hps'];exact hkeep
  rw [List.drop_length] at hm'
  obtain ⟨l'',R''⟩:=R'.drop (s':={ W'.s with heap:=h',toks:=tk2 }) hdead R'.gens rfl hap'
  exact wpAny_execs_nil (hQ ⟨{ W'.s with heap:=h',toks:=tk2 },W'.rho,fun b=>W'.D b∧b∉ps'.map (·.1)⟩ st' _ _ (l'.trans l'') R'' frN hm')
theorem aj9.forEnum {x:Str}{np cp pos tp:Pos}{te:List Expr}{tk:Nat}{e:Expr}{body:List Stmt}{me:M MV}{mt:MV→M Unit}{mb:M MF} (hn:Nm S g (.Name x np) (.type "enumerate")) (he:aj5 S g d e me) (hs:ajr e=true) (ht:aJ4 S g d (fun env v=>assign (Expr.Tuple te tk tp) env v) mt)
  (hb:aj1 S g d body mb):aj9 S g d (.For (.Tuple te tk tp) (.Call (.Name x np) [e] [] cp) body [] pos) (bnd me fun a st Q E=>match a with | .bytes b=>aqu (aXE b) mt mb st Q E | _=>False):=by
 refine ⟨fun cx A W st QM EM Q E hg hA R hm hQ hE=>?_⟩
 have hall:[e].all ajr=true:=by simp [hs]
 refine wpAny_For (wpAny_Call_ofName (hn cx A W st _ _ hg R (PyProof.Rows.callWith_type (aqk hall) (aq9 hall (wpAny_items_cons (he.then hg hA R hm (fun W₁ st₁ a u l₁ R₁ va hm₁=>wpAny_items_nil ?_) hE) (ajT hs)))))) (fun x=>aq8 rfl)
 cases a
 case bytes b=>
  replace hm₁:aqu (aXE b) mt mb st₁ QM EM:=hm₁
  obtain ⟨t,rfl⟩:=ajz va
  refine axy fun h0 hen hit hk0=>?_
  have hn1:W₁.s.heap.get? W₁.s.heap.objs.size=none:=ajt _
  have hn2:W₁.s.heap.get? (W₁.s.heap.objs.size + 1)=none:=Heap.get?_none_of_le (Nat.le_succ _)
  generalize W₁.s.heap.objs.size=B at hn1 hn2 hen hit ⊢
  have hlen:(aXE b).length=b.toArray.size:=by simp [aXE]
  have hW:=WalksT.enumerateD (Draws.bytes (prog:=S.prog) (w:=S.w) (A:=A.in1) (by exact hA.handled) B b.toArray t) (B + 1) (Nat.succ_ne_self _) (by simp) (by simp)
  refine hW.self 0 { W₁.s with heap:=h0 } _ _ ⟨⟨_,hen⟩,hit⟩ ?_
  refine ajl (id hit) fun oi hoi hci=>?_
  obtain ⟨l₂,R₂⟩:=R₁.pinNew (s':={ W₁.s with heap:=h0 }) hk0 R₁.gens rfl (ps:=[(B + 1,_),(B,_)]) (fun p hp=>by
   rcases List.mem_cons.mp hp with rfl | hp
   ·exact ⟨hn2,hen⟩
   ·rw [List.mem_singleton.mp hp];exact ⟨hn1,hoi⟩)
  have hps:∀ p∈cx.pins,p.1∉[B + 1,B]:=fun p hp hb=>by
   have z:=(R₁.pins p hp).2.1
   rcases List.mem_cons.mp hb with q | hb
   ·rw [q,hn2] at z;cases z
   ·rw [List.mem_singleton.mp hb,hn1] at z;cases z
  rw [← hlen] at hW
  refine bKu ht hb hg hA (hQ.tr l₁) (hE.tr l₁) l₂ R₂ rfl hps hW ⟨⟨_,hen⟩,hit⟩ (fun i h hst b' hb'=>?_) (fun i vals hP=>?_) hm₁
  ·rcases List.mem_cons.mp hb' with rfl | hb'
   ·obtain ⟨⟨old,z⟩,_⟩:=hst;exact ⟨_,z⟩
   ·rw [List.mem_singleton.mp hb'];obtain ⟨_,o,z,_⟩:=hst;exact ⟨o,z⟩
  ·revert hP;refine aq2 fun ti xv q2_ e3_=>?_;obtain ⟨c,u,hc,rfl⟩:=q2_;subst e3_
   have hc':b[i]? = some c:=by simpa using hc
   refine ⟨[.int i,.int ((b.getD i 0).toNat:Int)],?_,fun W=>?_⟩
   ·unfold aXE
    rw [List.getElem?_map,List.getElem?_range (List.getElem?_eq_some_iff.mp hc').1];rfl
   ·skip
    exact ⟨_,_,rfl,aZY,_,_,rfl,by rw [List.getD_eq_getElem?_getD,hc'];exact aZY,rfl⟩
 all_goals exact hm₁.elim
end
end Mine
end
section
set_option genSizeOf false
set_option genInjectivity false
namespace Mine
open PySem PySem.W PyProof.Rows PySem.Calls
section
variable {S:ajA}{g:Sig}{d:Nat}
theorem aj2.res {f:Value}{m:List MV→M MV} (h:∀ (cx:Cx) (W:Wd) (st:MSt) (as:List MV) (us:List Value) (QM:MV→MSt→Prop) (EM:Value→MSt→Prop),Rel S cx W st→VRs S.w.params S.C W as us→m as st QM EM→∃ r,Res S (call f us) r∧QM r st):aj2 S d f m:=by
 intro cx A W st QM EM Q E as us hA R vas hm hQ hE
 refine ajl (h cx W st as us QM EM R vas hm) fun r h1 h2=>?_
 exact h1.sim hA R h2 hQ
noncomputable def aQL:List MV→M MV:=by1 fun b=>aqg (b.length≤1099511627776) (ret (.int b.length))
theorem aj2.len:aj2 S d (.builtin "len") aQL:=aj2.res fun cx W st as us QM EM R vas hm=>by
 refine ajl (bZ5 hm) fun b e6_ r0_=>?_;subst e6_;obtain ⟨h1,h2⟩:=r0_
 obtain ⟨t,rfl⟩:=bjW vas
 exact ⟨_,Res.same fun A s Q E _ _ _ h=>len_bytes (by simpa using h1) (by
  have:=h (.int b.length (s.toks + 1)) (s.toks + 1 + 1) fun W=>aZY
  simpa using this),h2⟩
noncomputable def bQz:List MV→M MV:=by1 fun b=>match b with
 | [c]=>ret (.int (c.toNat:Int))
 | _=>azk
theorem bQy {as:List MV}{st:MSt}{Q:MV→MSt→Prop}{E:Value→MSt→Prop} (h:bQz as st Q E):∃ c,as=[.bytes [c]]∧Q (.int (c.toNat:Int)) st:=by
 refine ajl (bZ5 h) fun b e1_ h1=>?_;subst e1_
 rcases b with _ | ⟨c,_ | ⟨x,r⟩⟩
 ·exact h1.elim
 ·exact ⟨c,rfl,h1⟩
 ·exact h1.elim
theorem aQf (c:UInt8) (t:Tok):Gives (Builtin.«ord» ⟨[.bytes [c].toArray t],[]⟩) (.int (c.toNat:Int)):=
 .of_wp fun M A E s Q hq=>by
  obtain ⟨hp,g,d,tk,os⟩:=s
  wp_walk
  exact ⟨_,rfl,hq⟩
theorem aj2.ord:aj2 S d (.builtin "ord") bQz:=aj2.res fun cx W st as us QM EM R vas hm=>by
 refine ajl (bQy hm) fun c e2_ h1=>?_;subst e2_
 obtain ⟨t,rfl⟩:=bjW vas
 exact ⟨_,Res.same fun A s Q E _ _ _ h=>call_function_meets F.kind_ord F.plain_ord F.entry_ord (F.args_ord1 _) (aQf c t).meets (h _ _ fun W=>aZY),h1⟩
noncomputable def aZE:MV→Bool
 | .typ n=>decide (n = "bool")
 | _=>false
theorem bqG {a:MV} (h:aZE a=true):a = .typ "bool":=by
 have e:cond (aZE a) (a = .typ "bool") True:=by
  cases a<;>first | exact trivial | skip
  rename_i n
  show cond (decide (n = "bool")) _ _
  cases hn:decide (n = "bool") with
  | false=>trivial
  | true=>exact congrArg MV.typ (of_decide_eq_true hn)
 rw [h] at e;exact e
noncomputable def bxB:MV→M MV
 | .bool _=>ret (.bool true)
 | .none=>ret (.bool false)
 | .str _=>ret (.bool false)
 | .bytes _=>ret (.bool false)
 | .tup _=>ret (.bool false)
 | _=>azk
noncomputable def azU:List MV→M MV:=bJw fun a t=>fun st Q E=>cond (aZE t) (bxB a st Q E) False
inductive aXY:MV→Bool→Prop
 | bool (b):aXY (.bool b) true
 | none:aXY .none false
 | str (b):aXY (.str b) false
 | bytes (b):aXY (.bytes b) false
 | tup (b):aXY (.tup b) false
theorem bkx {a:MV}{st:MSt}{Q:MV→MSt→Prop}{E:Value→MSt→Prop} (h:bxB a st Q E):∃ r,aXY a r∧Q (.bool r) st:=by
 cases a<;>first | exact h.elim | exact ⟨_,by constructor,h⟩
theorem bqs {as:List MV}{st:MSt}{Q:MV→MSt→Prop}{E:Value→MSt→Prop} (h:azU as st Q E):∃ a r,as=[a,.typ "bool"]∧aXY a r∧Q (.bool r) st:=by
 refine ajU (aZ0 h) fun a t e3_ h1=>?_;subst e3_
 cases ht:aZE t with
 | false=>rw [ht] at h1;exact h1.elim
 | true=>
  rw [ht] at h1
  refine ajl (bkx h1) fun r h2 h3=>?_
  exact ⟨a,r,by rw [bqG ht],h2,h3⟩
theorem akI {x:Array UInt8}{u:Tok}{T:String} (hne:(Value.type "bytes" == Value.type T)=false) (hty:typeOf (.type T)=pure (.type "type")) (hsub:isSubtype (.type "bytes") (.type T)=pure false) :
  Meets (Builtin.«isinstance» ⟨[.bytes x u,.type T],[]⟩) (fun _ R s=>R (.ok (.ret (.bool false))) { s with toks:=s.toks + 1 }):=
 fun _ _ _ _ s hs=>by
  obtain ⟨h,g,d,t,os⟩:=s
  exact isinstance_outer (isinstance_nested_false_bytes hne hty hsub hs)
theorem aj2.isBool:aj2 S d (.builtin "isinstance") azU:=by
 intro cx A W st QM EM Q E as us hA R vas hm hQ hE
 refine ajU (bqs hm) fun a r e4_ r5_=>?_;subst e4_;obtain ⟨hc,h9⟩:=r5_
 clear hm
 refine ajU (bxZ vas) fun u w e6_ r0_=>?_;subst e6_;obtain ⟨hv,hw⟩:=r0_
 clear vas
 subst hw
 obtain ⟨l1,R1⟩:=R.same (s':={ W.s with toks:=W.s.toks + 1 }) rfl rfl rfl
 cases hc with
 | bool=>rw [bjX hv];exact IsiPair.bool_bool (hQ _ _ _ _ (Le.refl W) R azP h9)
 | none=>rw [aK7 hv];exact IsiPair.NoneType_bool (hQ _ _ _ _ l1 R1 azP h9)
 | str=>obtain ⟨t,rfl⟩:=bZj hv;exact IsiPair.str_bool (hQ _ _ _ _ l1 R1 azP h9)
 | bytes=>
  obtain ⟨t,rfl⟩:=ajz hv
  exact call_isinstance (akI (by decide +kernel) F.isi_meta_bool (isSubtype_of_subB (by decide +kernel))) (hQ _ _ _ _ l1 R1 azP h9)
 | tup=>
  obtain ⟨x,vs,_,⟨o,ho,hc,_⟩,_⟩:=bzG hv
  exact IsiPair.tuple_bool ho hc (hQ _ _ _ _ l1 R1 azP h9)
end
end Mine
end
section
namespace Mine
open PySem PySem.W PyProof.Rows PySem.Calls
section
variable {S:ajA}{g:Sig}{d:Nat}
theorem Rel.room {cx:Cx}{A:Around}{W:Wd}{st:MSt} (hA:AOK cx d A) (R:Rel S cx W st):PylongRoom (model S.prog S.w) A W.s:=by
 refine azS R.top fun e0 r L hst hf0 hf=>?_
 refine aQd (R.topOK e0 r hst) fun h1 h2 h3 h4=>?_
 exact PylongRoom.of (R.stat.nolimit.keeps R.stays) (by have:=hA.depth;show A.depth + 100 < _;walk_at "O") (SeerAt.of (R.stat.seer.keeps R.stays) R.stat.tree (hst ▸ hA.frames) h1 h2 h3 h4)
noncomputable def akn:List MV→M MV:=bJw (int2 fun a b=>aqg (b≠0) (ret (.tup [.int (a.fdiv b),.int (a.fmod b)])))
theorem bqt {as:List MV}{st:MSt}{Q:MV→MSt→Prop}{E:Value→MSt→Prop} (h:akn as st Q E):∃ a b,as=[.int a,.int b]∧b≠0∧Q (.tup [.int (a.fdiv b),.int (a.fmod b)]) st:=by
 refine ajU (aZ0 h) fun a b e1_ h1=>?_;subst e1_
 refine ajl (azn h1) fun x e2_ h2=>?_;subst e2_
 refine ajl (azn h2) fun y e3_ h3=>?_;subst e3_
 exact ⟨x,y,rfl,h3⟩
theorem aj2.divmod:aj2 S d (.builtin "divmod") akn:=by
 intro cx A W st QM EM Q E as us hA R vas hm hQ hE
 refine ajU (bqt hm) fun a b e4_ r5_=>?_;subst e4_;obtain ⟨hb,h9⟩:=r5_
 clear hm
 refine ajU (bxZ vas) fun v v2 e6_ r0_=>?_;subst e6_;obtain ⟨hv,hv2⟩:=r0_
 obtain ⟨t,rfl⟩:=aJn hv;obtain ⟨t2,rfl⟩:=aJn hv2
 refine aQd (R.new (o:={ cls:=.type "tuple",data:=.seq #[.int (a.fdiv b) W.s.toks,.int (a.fmod b) (W.s.toks + 1)] }) (k:=W.s.toks + 1 + 1) rfl) fun l R' hn hg=>?_
 exact divmod_int hb (hQ _ _ _ _ l R' (bZC ⟨_,[.int (a.fdiv b) W.s.toks,.int (a.fmod b) (W.s.toks + 1)],hn,⟨_,hg,rfl,0,rfl⟩,bv2 aZY (bv2 aZY bKO)⟩) h9) (.inr (R.room hA))
theorem aVm {P:Params}{C:Addr}{W:Wd}:∀ {xs:List MV}{vs:List Value}{ns:List Int},VRs P C W xs vs→avW xs=some ns→IntsAre vs ns
 | [],vs,ns,h,e=>by subst h;cases e;exact .nil
 | x::xs,vs,ns,h,e=>by
  revert h;refine aq2 fun v r e1_ r2_=>?_;subst e1_;obtain ⟨hx,hr⟩:=r2_
  refine ajl (Option.bind_eq_some_iff.mp (show (aQn x).bind _=_ from e)) fun i e1 e2=>?_
  refine ajl (Option.map_eq_some_iff.mp e2) fun ms e3 e3_=>?_;subst e3_
  cases aZN e1
  obtain ⟨t,rfl⟩:=aJn hx
  exact .cons _ _ (aVm hr e3)
noncomputable def avV:List MV→M MV:=bZw fun a=>bqa a fun xs st Q _=>∃ ns,avW xs=some ns∧(∀ n∈ns,0≤n∧n < 256)∧xs.length≤1000∧Q (.bytes (ns.map fun n=>n.toNat.toUInt8)) st
theorem bkv {xs:List MV}{st:MSt}{Q:MV→MSt→Prop}{E:Value→MSt→Prop}:avV [.list xs] st Q E = ∃ ns,avW xs=some ns∧(∀ n∈ns,0≤n∧n < 256)∧xs.length≤1000∧Q (.bytes (ns.map fun n=>n.toNat.toUInt8)) st:=rfl
theorem bkw {as:List MV}{st:MSt}{Q:MV→MSt→Prop}{E:Value→MSt→Prop} (h:avV as st Q E):∃ xs ns,as=[.list xs]∧avW xs=some ns∧(∀ n∈ns,0≤n∧n < 256)∧xs.length≤1000∧Q (.bytes (ns.map fun n=>n.toNat.toUInt8)) st:=by
 refine ajl (bzr h) fun a e4_ h1=>?_;subst e4_
 refine ajl (aV5 h1) fun xs e5_ r6_=>?_;subst e5_;obtain ⟨ns,h2⟩:=r6_
 exact ⟨xs,ns,rfl,h2⟩
theorem aj2.bytes:aj2 S d (.type "bytes") avV:=by
 intro cx A W st QM EM Q E as us hA R vas hm hQ hE
 refine ajU (bkw hm) fun xs ns e0_ r1_=>?_;subst e0_;obtain ⟨h1,h2,h3,h9⟩:=r1_
 clear hm
 refine ajl (bZc vas) fun v e2_ hv=>?_;subst e2_
 obtain ⟨x,vs,_,hl,hvs⟩:=aJa hv
 refine call_bytes_ints hl (aVm hvs h1) h2 (by rw [VRs.length hvs,sizeLine_eq];walk_at "O") hA.handled fun h' t k hk=>?_
 obtain ⟨l,R'⟩:=R.keeps (s':={ W.s with heap:=h',toks:=k }) hk R.gens rfl
 exact hQ _ _ _ _ l R' azA h9
noncomputable def aJQ (a:MV) (st:MSt):Prop:=∃ i xs,a = .obj i∧st.objs[i]? = some (.list xs)
noncomputable def aXv (a:MV) (st:MSt) (p:Prop):Prop:=aJQ a st∧p
theorem ajH.append:ajH S d "append" aXv (.builtin "list.append"):=by
 intro cx A W st a v pl Q E p hA R va ⟨⟨i,xs,e,hx⟩,hp⟩
 refine ⟨hp,fun h=>?_⟩
 subst e
 obtain ⟨x,hr⟩:=bzH va
 obtain ⟨x',q1,_,⟨vs,c,q3,_⟩,_⟩:=R.live i _ hx (by intro q;cases q)
 obtain rfl:x=x':=Option.some.inj (hr.symm.trans q1)
 exact getMethod_builtin (T:="list") ⟨_,q3,rfl⟩ F.plainAttrs_list F.slot_list_append F.type_list_append (fun b e=>by cases e;exact ⟨_,q3,rfl⟩) h
noncomputable def ako:List MV→M MV:=bJw fun a v=>bq9 a fun i st Q _=>∃ xs,st.objs[i]? = some (.list xs)∧xs.length≤10000∧Q .none ⟨st.loc,st.objs.set i (.list (xs++[v]))⟩
theorem bqu {i:Nat}{v:MV}{st:MSt}{Q:MV→MSt→Prop}{E:Value→MSt→Prop}:ako [.obj i,v] st Q E = ∃ xs,st.objs[i]? = some (.list xs)∧xs.length≤10000∧Q .none ⟨st.loc,st.objs.set i (.list (xs++[v]))⟩:=rfl
theorem bqv {as:List MV}{st:MSt}{Q:MV→MSt→Prop}{E:Value→MSt→Prop} (h:ako as st Q E):∃ i v xs,as=[.obj i,v]∧st.objs[i]? = some (.list xs)∧xs.length≤10000∧Q .none ⟨st.loc,st.objs.set i (.list (xs++[v]))⟩:=by
 refine ajU (aZ0 h) fun a v e3_ h1=>?_;subst e3_
 refine ajl (aZk h1) fun i e4_ r5_=>?_;subst e4_;obtain ⟨xs,h2⟩:=r5_
 exact ⟨i,v,xs,rfl,h2⟩
theorem aj2.append:aj2 S d (.builtin "list.append") ako:=by
 intro cx A W st QM EM Q E as us hA R vas hm hQ hE
 refine av2 (bqv hm) fun i v xs e6_ r0_=>?_;subst e6_;obtain ⟨hx,hlen,h9⟩:=r0_
 clear hm
 refine ajU (bxZ vas) fun u u2 e1_ r2_=>?_;subst e1_;obtain ⟨hu,hu2⟩:=r2_
 obtain ⟨x,hr⟩:=bzH hu
 obtain ⟨x',q1,_,⟨vs,c,q3,q4⟩,_⟩:=R.live i _ hx (by intro q;cases q)
 obtain rfl:x=x':=Option.some.inj (hr.symm.trans q1)
 refine wpAny_list_append_plain (items:=vs.toArray) ⟨c,q3⟩ (fun h' hp hs=>?_) (by rw [List.size_toArray,VRs.length q4,sizeLine_eq];walk_at "O")
 obtain ⟨n,hn⟩:=hp
 obtain ⟨l,R'⟩:=R.upd (mo':=.list (xs++[v])) (tk:=W.s.toks) hx (by intro q;cases q) hr hs hn (fun vs q=>by cases q) fun W' l' e=>⟨vs++[u2],n,by rw [e];simp,by
  refine VRs.app (VRs.mono l' _ _ q4) ?_
  exact bv2 (VR.mono l' _ _ hu2) bKO⟩
 exact hQ _ _ _ _ l R' aKW h9
noncomputable def aZC (a:MV) (st:MSt):Prop:=∃ i xs,a = .obj i∧st.objs[i]? = some (.set xs)
noncomputable def bZo (a:MV) (st:MSt) (p:Prop):Prop:=aZC a st∧p
theorem ajH.add:ajH S d "add" bZo (.builtin "set.add"):=by
 intro cx A W st a v pl Q E p hA R va ⟨⟨i,xs,e,hx⟩,hp⟩
 refine ⟨hp,fun h=>?_⟩
 subst e
 obtain ⟨x,hr⟩:=bzH va
 obtain ⟨x',q1,_,⟨o,q3,q4⟩,_⟩:=R.live i _ hx (by intro q;cases q)
 obtain rfl:x=x':=Option.some.inj (hr.symm.trans q1)
 exact getMethod_builtin (T:="set") ⟨_,q3,q4.ex.1⟩ F.plainAttrs_set F.slot_set_add F.type_set_add (fun b e=>by cases e;exact ⟨_,q3,q4.ex.2.1⟩) h
noncomputable def aQN:List MV→M MV:=bJw fun a b=>bq9 a fun i=>azR b fun k st Q _=>∃ xs,st.objs[i]? = some (.set xs)∧xs.length≤1000∧Q .none ⟨st.loc,st.objs.set i (.set (aqG xs k))⟩
theorem bky {i:Nat}{k:List UInt8}{st:MSt}{Q:MV→MSt→Prop}{E:Value→MSt→Prop}:aQN [.obj i,.bytes k] st Q E = ∃ xs,st.objs[i]? = some (.set xs)∧xs.length≤1000∧Q .none ⟨st.loc,st.objs.set i (.set (aqG xs k))⟩:=rfl
theorem bkz {as:List MV}{st:MSt}{Q:MV→MSt→Prop}{E:Value→MSt→Prop} (h:aQN as st Q E):∃ i k xs,as=[.obj i,.bytes k]∧st.objs[i]? = some (.set xs)∧xs.length≤1000∧Q .none ⟨st.loc,st.objs.set i (.set (aqG xs k))⟩:=by
 refine ajU (aZ0 h) fun a b e3_ h1=>?_;subst e3_
 refine ajl (aZk h1) fun i e4_ h2=>?_;subst e4_
 refine ajl (aql h2) fun k e5_ r6_=>?_;subst e5_;obtain ⟨xs,h3⟩:=r6_
 exact ⟨i,k,xs,rfl,h3⟩
theorem aj2.addTo:aj2 S d (.builtin "set.add") aQN:=by
 intro cx A W st QM EM Q E as us hA R vas hm hQ hE
 refine av2 (bkz hm) fun i k xs e0_ r1_=>?_;subst e0_;obtain ⟨hx,hlen,h9⟩:=r1_
 clear hm
 refine ajU (bxZ vas) fun u u2 e2_ r3_=>?_;subst e2_;obtain ⟨hu,hu2⟩:=r3_
 obtain ⟨t,rfl⟩:=ajz hu2
 obtain ⟨x,hr⟩:=bzH hu
 obtain ⟨x',q1,_,⟨o,q3,q4⟩,_⟩:=R.live i _ hx (by intro q;cases q)
 obtain rfl:x=x':=Option.some.inj (hr.symm.trans q1)
 have hT:W.s.TypeIs (.ref x) "set":=⟨o,q3,q4.ex.1⟩
 refine wpAny_call_entry F.slot_set_add hT F.entry_set_add ?_ (F.args_set_add_2 _ _)
 unfold Builtin.«set.add» Builtin.Frozenset.oneOther
 simp only [List.isEmpty_nil,bind_assoc]
 refine wpAny_bind (wpAny_pure ?_)
 try dsimp only
 have key:wpAny (model S.prog S.w) A.in1 (setAdd x (.bytes k.toArray t)) (fun _ s'=>Q .none s') E W.s:=by
  refine bjK q3 q4 (by have:scanBound=4096:=rfl;walk_at "O") fun b h' o' z1 z2 z3=>?_
  obtain ⟨l,R'⟩:=R.upd (mo':=.set (aqG xs k)) (tk:=W.s.toks + 1) hx (by intro q;cases q) hr z1 z2 (fun vs q=>by
   obtain ⟨_,es,ep,t,e,_⟩:=z3
   rw [e] at q;cases q) fun W' l' e=>⟨o',e,z3⟩
  exact hQ _ _ _ _ l R' aKW h9
 refine wpAny_bind (wpAny_pure ?_)
 try dsimp only
 refine wpAny_bind (wpAny_mono key (fun b s' h=>?_) fun _ _ e=>e)
 show wpAny _ _ (PySem.ret Value.none) _ _ _
 exact wpAny_pure ⟨_,rfl,h⟩
noncomputable def aqz:MV→MSt→Prop→Prop
 | .bytes _,_,p=>p
 | _,_,_=>False
theorem bkC {a:MV}{st:MSt}{p:Prop} (h:aqz a st p):(∃ b,a = .bytes b)∧p:=by cases a<;>first | exact h.elim | exact ⟨⟨_,rfl⟩,h⟩
theorem ajH.bytes {name:Str}{id:String} (sl:Slot "bytes" name id) (ty:typeOf (.builtin id)=pure (.type "method_descriptor")):ajH S d name aqz (.builtin id):=by
 intro cx A W st a v pl Q E p hA R va hk
 obtain ⟨⟨b,rfl⟩,hp⟩:=bkC hk
 refine ⟨hp,fun h=>?_⟩
 obtain ⟨t,rfl⟩:=ajz va
 exact getMethod_builtin (T:="bytes") (typeIs_bytes _ _ _) FB.plainAttrs_bytes sl ty (fun a e=>nomatch e) h
theorem akL {P:Params}{C:Addr}{W:Wd}{a b:List UInt8}{us:List Value} (h:VRs P C W [.bytes a,.bytes b] us):∃ t u,us=[.bytes a.toArray t,.bytes b.toArray u]:=by
 refine ajU (bxZ h) fun v w e4_ r5_=>?_;subst e4_;obtain ⟨h1,h2⟩:=r5_
 obtain ⟨t,rfl⟩:=ajz h1;obtain ⟨t2,rfl⟩:=ajz h2
 exact ⟨t,t2,rfl⟩
noncomputable def azt:List MV→M MV:=by2 fun a b=>ret (.bool (aqL a b))
noncomputable def bku:List MV→M MV:=by2 fun a b=>ret (.bool (aZM a b))
noncomputable def aZu:List MV→M MV:=by2 fun a b=>aqg (a.length≤16777216) (ret (.bytes (ajy false true b a)))
noncomputable def aVf:List MV→M MV:=by2 fun a b=>aqg (a.length≤16777216) (ret (.bytes (ajy true true b a)))
noncomputable def aKk:List MV→M MV:=by2 fun a b=>match b with
 | [c]=>aqg (a.length≤10000) (ret (.list ((ajv c a).map MV.bytes)))
 | _=>azk
theorem bko {as:List MV}{st:MSt}{Q:MV→MSt→Prop}{E:Value→MSt→Prop} (h:aKk as st Q E):∃ a c,as=[.bytes a,.bytes [c]]∧a.length≤10000∧Q (.list ((ajv c a).map MV.bytes)) st:=by
 refine ajU (bzj h) fun a b e6_ h1=>?_;subst e6_
 rcases b with _ | ⟨c,_ | ⟨x,r⟩⟩
 ·exact h1.elim
 ·exact ⟨a,c,rfl,h1⟩
 ·exact h1.elim
theorem aj2.starts:aj2 S d (.builtin "bytes.startswith") azt:=aj2.res fun cx W st as us QM EM R vas hm=>by
 refine ajU (bzj hm) fun a b e0_ h9=>?_;subst e0_
 refine azD (akL vas) fun t u e1_=>?_;subst e1_
 exact ⟨_,Res.same fun A s Q E _ _ _ h=>call_gives FB.slot_bytes_startswith (typeIs_bytes _ _ _) FB.entry_bytes_startswith (FB.args_bytes_startswith_2 _ _) (aJf _ _) (h _ s.toks fun W=>azP),h9⟩
theorem aj2.ends:aj2 S d (.builtin "bytes.endswith") bku:=aj2.res fun cx W st as us QM EM R vas hm=>by
 refine ajU (bzj hm) fun a b e2_ h9=>?_;subst e2_
 refine azD (akL vas) fun t u e3_=>?_;subst e3_
 exact ⟨_,Res.same fun A s Q E _ _ _ h=>call_gives FB.slot_bytes_endswith (typeIs_bytes _ _ _) FB.entry_bytes_endswith (FB.args_bytes_endswith_2 _ _) (aQg _ _) (h _ s.toks fun W=>azP),h9⟩
theorem aQu {l r:Bool}{a b:List UInt8}{t:Tok}{s:Shared}{Q:Value→Shared→Prop} (hl:a.length≤16777216) (h:∀ (v:Value) (k:Nat),(∀ W,VR S.w.params S.C W (.bytes (ajy l r b a)) v)→Q v { s with toks:=k }) :
  (if (ajy l r b a).length=a.length then Made.val (.bytes (ajy l r b a).toArray t) else .bytes (ajy l r b a).toArray).post Q s:=by
 split
 ·exact h _ s.toks fun W=>azA
 ·exact ⟨by rw [List.size_toArray,sizeLine_eq];exact Nat.le_trans (bzP _ _ _ _) hl,h _ _ fun W=>azA⟩
theorem aj2.rstrip:aj2 S d (.builtin "bytes.rstrip") aZu:=aj2.res fun cx W st as us QM EM R vas hm=>by
 refine ajU (bzj hm) fun a b e4_ r5_=>?_;subst e4_;obtain ⟨h8,h9⟩:=r5_
 refine azD (akL vas) fun t u e6_=>?_;subst e6_
 exact ⟨_,Res.same fun A s Q E _ _ _ h=>call_gives BF.slot_rstrip (typeIs_bytes _ _ _) BF.entry_rstrip (BF.args_rstrip _ _) (avX _ _ rfl) (aQu h8 h),h9⟩
theorem aj2.strip:aj2 S d (.builtin "bytes.strip") aVf:=aj2.res fun cx W st as us QM EM R vas hm=>by
 refine ajU (bzj hm) fun a b e0_ r1_=>?_;subst e0_;obtain ⟨h8,h9⟩:=r1_
 refine azD (akL vas) fun t u e2_=>?_;subst e2_
 exact ⟨_,Res.same fun A s Q E _ _ _ h=>call_gives BF.slot_strip (typeIs_bytes _ _ _) BF.entry_strip (BF.args_strip _ _) (avX _ _ rfl) (aQu h8 h),h9⟩
theorem aZV {P:Params}{C:Addr}{W:Wd}:∀ {bs:List (List UInt8)}{vs:List Value},vs.length=bs.length→(∀ (i:Nat) (p:List UInt8),bs[i]? = some p→∃ tk,vs[i]? = some (.bytes p.toArray tk))→VRs P C W (bs.map MV.bytes) vs
 | [],[],_,_=>rfl
 | [],_::_,h,_=>by simp at h
 | b::bs,[],h,_=>by simp at h
 | b::bs,v::vs,h,hv=>by
  rw [List.map_cons]
  obtain ⟨tk,e⟩:=hv 0 b rfl
  cases e
  exact ⟨_,vs,rfl,azA,aZV (by simpa using h) fun i p e=>hv (i + 1) p e⟩
theorem aj2.split:aj2 S d (.builtin "bytes.split") aKk:=by
 intro cx A W st QM EM Q E as us hA R vas hm hQ hE
 refine ajU (bko hm) fun a c e3_ r4_=>?_;subst e3_;obtain ⟨h8,h9⟩:=r4_
 clear hm
 refine azD (akL vas) fun t u e5_=>?_;subst e5_
 refine call_meets BF.slot_split (typeIs_bytes _ _ _) BF.entry_split (BF.args_split _ _) (aXj a c) ⟨by rw [sizeLine_eq];walk_at "O",fun vs k hlen hv=>?_⟩
 refine aQd (R.new (o:={ cls:=.type "list",data:=.seq vs.toArray }) (k:=k) rfl) fun l R' hn hg=>?_
 refine hQ _ _ _ _ l R' ?_ h9
 exact aZX ⟨_,vs,hn,⟨_,hg,rfl,0,rfl⟩,aZV hlen hv⟩
end
end Mine
end
section
namespace Mine
open PySem PySem.W PyProof.Rows PySem.Calls
section
variable {prog:Program}{w:World}{A:Around}{E:Value→Shared→Prop}{s:Shared}
theorem aKX {R:Result→Shared→Prop}{I a:Addr}{n:Nat}{P:Nat→Value→Prop}{St:Nat→Heap→Prop} (W:Walks prog w A.in1 I [I,a] [I] n P St) (S:Addr) (hSI:S≠I) (hSa:S≠a) (ks:List (List UInt8)) (hlen:ks.length=n) (hnd:ks.Nodup)
  (hval:∀ i v,P i v→∃ k t,ks[i]? = some k∧v = .bytes k.toArray t) (hb:n + 1 < scanBound) :
  ∀ (k i:Nat) (s:Shared),n - i=k→i≤n→St i s.heap→(∃ o,s.heap.get? S=some o∧axj w.params (ks.take i) o)→
   (∀ (h':Heap) (tk:Nat),(∀ b o,b≠S→b≠I→s.heap.get? b=some o→h'.get? b=some o)→(∃ o,h'.get? S=some o∧axj w.params ks o)→R (.ok (.ret .none)) { s with heap:=h',toks:=tk })→
   codeAny (model prog w) A (.builtin "set.update.loop" ⟨[.ref S,.ref I],[]⟩) R s:=by
 intro k
 induction k with
 | zero=>
  intro i s hk hi hst hS hR
  have hin:i=n:=by walk_at "O"
  subst hin
  refine codeAny_builtin F.entry_set_update_loop ?_
  rw [Around.under_plainId F.plain_set_update_loop _]
  show wpAny _ A.in1 (pyNext (.ref I)>>=_) _ _ s
  refine wpAny_bind (W.done s _ _ hst fun h' tk hk=>?_)
  show wpAny _ A.in1 (PySem.ret Value.none) _ _ _
  revert hS;refine azC fun o ho hso=>?_
  rw [List.take_of_length_le (by walk_at "O")] at hso
  exact wpAny_pure (hR h' tk (fun b o hb1 hb2 e=>hk b o (by simpa using hb2) e) ⟨o,hk _ _ (by simpa using hSI) ho,hso⟩)
 | succ k ih=>
  intro i s hk hi hst hS hR
  have hlt:i < n:=by walk_at "O"
  refine codeAny_builtin F.entry_set_update_loop ?_
  rw [Around.under_plainId F.plain_set_update_loop _]
  show wpAny _ A.in1 (pyNext (.ref I)>>=_) _ _ s
  refine wpAny_bind (W.item i s _ _ hlt hst fun v h' tk hP hst' hkp=>?_)
  refine ajU (hval i v hP) fun kk t hkk e6_=>?_;subst e6_
  revert hS;refine azC fun o ho hso=>?_
  show wpAny _ A.in1 (holding [Value.bytes kk.toArray t] (setAdd S (.bytes kk.toArray t))>>=_) _ _ _
  refine wpAny_bind (wpAny_holding (bjK (s:={ s with heap:=h',toks:=tk }) (hkp _ _ (by simpa using hSI) ho) hso (by rw [List.length_take];walk_at "O") fun b h2 o2 z1 z2 z3=>?_))
  have hnew:aqG (ks.take i) kk=ks.take (i + 1):=by
   have hi2:i < ks.length:=by walk_at "O"
   have hx:ks[i]=kk:=(List.getElem?_eq_some_iff.mp hkk).2
   rw [List.take_succ_eq_append_getElem hi2,hx]
   unfold aqG
   rw [if_neg fun q=>?_]
   have h1:(ks.take (i + 1)).Nodup:=hnd.sublist (List.take_sublist _ _)
   rw [List.take_succ_eq_append_getElem hi2,hx,List.nodup_append] at h1
   exact h1.2.2 kk q kk (by simp) rfl
  rw [hnew] at z3
  refine wpAny_pure ⟨plainId_quiet F.plain_set_update_loop _,ih (i + 1) _ (by walk_at "O") hlt (W.frame _ _ _ hst' fun b hb o e=>(z1.2 b ?_).trans e) ⟨o2,z2,z3⟩ fun h3 tk3 hk3 hS3=>?_⟩
  ·rcases List.mem_cons.mp hb with rfl | hb
   ·exact Ne.symm hSI
   ·rw [List.mem_singleton.mp hb];exact Ne.symm hSa
  ·exact hR h3 tk3 (fun b o hb1 hb2 e=>hk3 b o hb1 hb2 ((z1.2 b hb1).trans (hkp b o (by simpa using hb2) e))) hS3
noncomputable abbrev ajV (led:Bool):Obj:={ cls:=.type "set",dict:=none,data:=.set #[] 0 (.fresh 0 0 led) }
noncomputable abbrev azy (w:World):Bool:=!(w.params.followText "set-order")
theorem aQD:axj w.params [] (ajV (azy w)):=
 ⟨⟨rfl,rfl,rfl⟩,#[],0,.fresh 0 0 (azy w),rfl,⟨[],.refl _,rfl⟩,.nil,by decide,rfl,by
  show azy w=true∨_
  unfold azy
  cases w.params.followText "set-order"<;>simp,fun _=>rfl⟩
theorem bzW {Q₁:Value→Shared→Prop} (h:Q₁ (.ref s.heap.objs.size) { s with heap:=s.heap.push (ajV (azy w)) }) :
  codeAny (model prog w) A (.call (.builtin "set.__new__") ⟨[.type "set"],[]⟩) (wants Q₁ E) s:=by
 refine codeAny_of_tree ?_
 show wpAny _ A.in1 (do checkBuiltinCall "set.__new__" ⟨[.type "set"],[]⟩;again (.builtin "set.__new__" ⟨[.type "set"],[]⟩)) _ _ s
 refine wpAny_bind (wpAny_of_eq F.newCall_set_0 (wpAny_pure ⟨plainId_quiet F.plain_set_new _,codeAny_builtin F.entry_set_new ?_⟩))
 rw [Around.under_plainId F.plain_set_new _]
 unfold Builtin.«set.__new__» Builtin.Frozenset.newClass
 have own:=sub_set_self
 obtain ⟨hp,g,d,tk,os⟩:=s
 dsimp only
 wp_walk
 refine wpAny_askSetting (wpAny_pure ?_)
 dsimp only
 exact wpAny_bind (wpAny_alloc (wpAny_pure (wpAny_pure h)))
theorem bzV (a:Value) {Q₁:Value→Shared→Prop} (h:Q₁ (.ref s.heap.objs.size) { s with heap:=s.heap.push (ajV (azy w)) }) :
  codeAny (model prog w) A (.call (.builtin "set.__new__") ⟨[.type "set",a],[]⟩) (wants Q₁ E) s:=by
 refine codeAny_of_tree ?_
 show wpAny _ A.in1 (do checkBuiltinCall "set.__new__" ⟨[.type "set",a],[]⟩;again (.builtin "set.__new__" ⟨[.type "set",a],[]⟩)) _ _ s
 refine wpAny_bind (wpAny_of_eq (F.newCall_set_1 a) (wpAny_pure ⟨plainId_quiet F.plain_set_new _,codeAny_builtin F.entry_set_new ?_⟩))
 rw [Around.under_plainId F.plain_set_new _]
 unfold Builtin.«set.__new__» Builtin.Frozenset.newClass
 have own:=sub_set_self
 obtain ⟨hp,g,d,tk,os⟩:=s
 dsimp only
 wp_walk
 refine wpAny_askSetting (wpAny_pure ?_)
 dsimp only
 exact wpAny_bind (wpAny_alloc (wpAny_pure (wpAny_pure h)))
set_option maxHeartbeats 1000000 in
theorem bzg {Q:Value→Shared→Prop} (h:Q (.ref s.heap.objs.size) { s with heap:=s.heap.push (ajV (azy w)) }):wpAny (model prog w) A (call (.type "set") []) Q E s:=by
 refine azD F.called_set.mro fun c tl hmro=>?_
 have hmade:=F.called_set.made
 have hsub:=F.called_set.sub
 refine wpAny_call (codeAny_of_tree ?_)
 show wpAny _ _ (callAny (.type "set") _) _ _ _
 refine wpAny_pure ⟨Code.quiet_builtin _ (by decide +kernel),codeAny_builtin F.entry_type_call ?_⟩
 rw [Around.under_plain (weight_type_call_type "set" [] []) rfl]
 have h1:=F.called_set.notType
 have h2:=F.called_set.canCreate
 have hct:=F.typeCall_set_0
 repeat (any_goals (first | assumption | wp_step))
 refine codeAny_mono (bzW (E:=E) (Q₁:=fun obj s₁=>obj = .ref s.heap.objs.size∧s₁={ s with heap:=s.heap.push (ajV (azy w)) }) ⟨rfl,rfl⟩) fun r s₁ hr=>?_
 cases r with
 | error e=>exact hr
 | ok fl=>
  cases fl with
  | ret obj=>
   obtain ⟨rfl,rfl⟩:=hr
   have hS:(s.heap.push (ajV (azy w))).get? s.heap.objs.size=some (ajV (azy w)):=Heap.get?_push_size _ rfl
   have hT:Shared.TypeIs { s with heap:=s.heap.push (ajV (azy w)) } (.ref s.heap.objs.size) "set":=⟨_,hS,rfl⟩
   have hli:=F.called_set.init.lookup
   have hbi:=F.called_set.init.bind (.ref s.heap.objs.size)
   repeat (any_goals (first | assumption | wp_step))
   refine codeAny_mono (codeAny_call_builtin (R:=wants (fun r s₂=>r = .none∧Q (.ref s.heap.objs.size) s₂) E) F.called_set.init.plain F.entry_set_init (check_set_init hT ?_)) fun r₂ s₂ hr₂=>?_
   ·skip
    wp_walk
    exact ⟨rfl,h⟩
   ·cases r₂ with
    | error e=>exact hr₂
    | ok fl₂=>
     cases fl₂ with
     | ret r=>
      obtain ⟨rfl,hq⟩:=hr₂
      repeat (any_goals (first | assumption | wp_step))
     | _=>exact hr₂.elim
  | _=>exact hr.elim
theorem bz9:isSubtype (.type "dict_keys") (.type "set")=pure false:=isSubtype_of_subB (by decide +kernel)
theorem aKA:isSubtype (.type "dict_keys") (.type "frozenset")=pure false:=isSubtype_of_subB (by decide +kernel)
set_option maxHeartbeats 2000000 in
theorem aZG {v dd:Addr}{kvs:List (List UInt8×Value)}{ep:Nat}{Q:Value→Shared→Prop} (hh:A.handled=none) (hv:KdlKeysView s.heap v dd) (hm:s.heap.DictAt (bytesKind prog w) dd kvs ep) (hnd:(kvs.map (·.1)).Nodup) (hb:kvs.length + 1 < scanBound)
  (h:∀ (h':Heap) (tk:Nat),(∀ b o,s.heap.get? b=some o→h'.get? b=some o)→(∃ o,h'.get? s.heap.objs.size=some o∧axj w.params (kvs.map (·.1)) o)→Q (.ref s.heap.objs.size) { s with heap:=h',toks:=tk }) :
  wpAny (model prog w) A (call (.type "set") [.ref v]) Q E s:=by
 refine azD F.called_set.mro fun c tl hmro=>?_
 have hmade:=F.called_set.made
 have hsub:=F.called_set.sub
 refine wpAny_call (codeAny_of_tree ?_)
 show wpAny _ _ (callAny (.type "set") _) _ _ _
 refine wpAny_pure ⟨Code.quiet_builtin _ (by decide +kernel),codeAny_builtin F.entry_type_call ?_⟩
 rw [Around.under_plain (weight_type_call_type "set" [.ref v] []) rfl]
 have h1:=F.called_set.notType
 have h2:=F.called_set.canCreate
 have hct:=F.typeCall_set_1 (.ref v)
 repeat (any_goals (first | assumption | wp_step))
 refine codeAny_mono (bzV (.ref v) (E:=E) (Q₁:=fun obj s₁=>obj = .ref s.heap.objs.size∧s₁={ s with heap:=s.heap.push (ajV (azy w)) }) ⟨rfl,rfl⟩) fun r s₁ hr=>?_
 cases r with
 | error e=>exact hr
 | ok fl=>
  cases fl with
  | ret obj=>
   obtain ⟨rfl,rfl⟩:=hr
   have hS:(s.heap.push (ajV (azy w))).get? s.heap.objs.size=some (ajV (azy w)):=Heap.get?_push_size _ rfl
   have hT:Shared.TypeIs { s with heap:=s.heap.push (ajV (azy w)) } (.ref s.heap.objs.size) "set":=⟨_,hS,rfl⟩
   have hli:=F.called_set.init.lookup
   have hbi:=F.called_set.init.bind (.ref s.heap.objs.size)
   repeat (any_goals (first | assumption | wp_step))
   refine codeAny_mono (codeAny_call_builtin (R:=wants (fun r s₂=>r = .none∧Q (.ref s.heap.objs.size) s₂) E) F.called_set.init.plain F.entry_set_init (check_set_init_1 hT ?_)) fun r₂ s₂ hr₂=>?_
   ·have hv1:KdlKeysView (s.heap.push (ajV (azy w))) v dd:=let ⟨o,e,r⟩:=hv;⟨o,Heap.get?_push_of_some _ e,r⟩
    have hm1:(s.heap.push (ajV (azy w))).DictAt (bytesKind prog w) dd kvs ep:=hm.push _
    have hTv:Shared.TypeIs { s with heap:=s.heap.push (ajV (azy w)) } (.ref v) "dict_keys":=hv1.typeIs
    have hns:=bz9
    have hnf:=aKA
    have hnd':(Value.type "dict_keys" == Value.type "dict")=false:=by decide
    have hdS:dd≠s.heap.objs.size:=Nat.ne_of_lt hm.lt_size
    have hsz:(s.heap.push (ajV (azy w))).objs.size=s.heap.objs.size + 1:=Heap.size_push ..
    revert hv1;refine aZb fun q0_ hov hcv hdv=>?_;obtain ⟨ocls,odict,odata,oslots⟩:=q0_
    subst hcv;subst hdv
    unfold Builtin.«set.__init__» noKeywords Builtin.Frozenset.updateFrom
    generalize hPI:pyIter=PI
    wp_walk
    subst hPI
    refine kdl_pyIter_keys ⟨_,hov,rfl,rfl⟩ hm1 ?_
    refine wpAny_bind (wpAny_runValue ?_)
    have hh3:A.in1.in1.in1.handled=none:=by simp [hh]
    have hSI:s.heap.objs.size≠(s.heap.push (ajV (azy w))).objs.size:=by rw [hsz];walk_at "O"
    have hdI:dd≠(s.heap.push (ajV (azy w))).objs.size:=Nat.ne_of_lt hm1.lt_size
    refine aKX (Walks.dictKeys (by simp [hh]) _ dd hdI kvs ep) s.heap.objs.size hSI (Ne.symm hdS) (kvs.map (·.1)) (by simp) hnd (fun i v hP=>?_) hb (kvs.length - 0) 0 _ (by walk_at "O") (Nat.zero_le _)
     ⟨⟨_,Heap.get?_push_size _ rfl,rfl,rfl⟩,hm1.push _⟩ ⟨_,Heap.get?_push_of_some _ hS,aQD⟩ fun h' tk hk hS'=>?_
    ·revert hP;refine aq2 fun k x q1 q2=>?_
     obtain ⟨t,rfl⟩:=isBytes_shape q2
     exact ⟨k,t,by rw [List.getElem?_map,q1];rfl,rfl⟩
    ·show wpAny _ _ _ _ _ _
     refine wpAny_pure ?_
     show wpAny _ _ (PySem.ret Value.none) _ _ _
     refine wpAny_pure ⟨rfl,h h' tk (fun b o e=>hk b o (Nat.ne_of_lt (Heap.lt_size e)) ?_ (Heap.get?_push_of_some _ (Heap.get?_push_of_some _ e))) hS'⟩
     rw [hsz];exact Nat.ne_of_lt (Nat.lt_succ_of_lt (Heap.lt_size e))
   ·cases r₂ with
    | error e=>exact hr₂
    | ok fl₂=>
     cases fl₂ with
     | ret r=>
      obtain ⟨rfl,hq⟩:=hr₂
      repeat (any_goals (first | assumption | wp_step))
     | _=>exact hr₂.elim
  | _=>exact hr.elim
end
end Mine
end
section
namespace Mine
open PySem PySem.W PyProof.Rows PySem.Calls
section
variable {S:ajA}{g:Sig}{d:Nat}
noncomputable def bvF:List MV→M MV
 | []=>azo (.set [])
 | _=>azk
theorem aj2.set0:aj2 S d (.type "set") bvF:=by
 intro cx A W st QM EM Q E as us hA R vas hm hQ hE
 cases as with
 | cons=>exact hm.elim
 | nil=>
 subst vas
 refine bzg ?_
 obtain ⟨l,R'⟩:=R.fresh_obj (o:=ajV (azy S.w)) (mo:=.set []) rfl fun W' _ h=>⟨_,h,aQD⟩
 refine hQ _ _ _ _ l R' ?_ hm
 exact bZh ⟨_,by rw [List.getElem?_append_right (by rw [R.len];exact Nat.le_refl _),R.len,Nat.sub_self];rfl⟩
noncomputable def aZt (a:MV):M MV:=fun st Q _=>∃ es,ajZ st a=some es∧(ajn es).Nodup∧es.length≤1000∧Q (.set (ajn es)) st
theorem aj5.setKeys {x:Str}{np pos apos p1:Pos}{o:Expr}{mo:M MV} (hn:Nm S g (.Name x np) (.type "set")) (ho:aj5 S g d o mo) (hb:av3 o=true) (hl:(apos.endLine == p1.line)=true) :
  aj5 S g d (.Call (.Name x np) [.Call (.Attribute o "keys" apos) [] [] p1] [] pos) (bnd mo aZt):=by
 refine ⟨fun cx A W st QM EM Q E hg hA R hm hQ hE=>?_⟩
 refine wpAny_Call_ofName (hn cx A W st _ _ hg R (PyProof.Rows.callWith_type (aqk rfl) (aq9 rfl (wpAny_items_cons ?_ rfl))))
 rw [arm_eval_Call,aqV hb]
 refine wpAny_bind (ho.then hg hA R hm (fun W₁ st₁ a u l₁ R₁ va hm₁=>wpAny_bind (wpAny_standAt ?_)) hE)
 revert hm₁; refine bxq fun es he hnd hlen hm₁=>?_
 have hform:methodCallForm (([]:List Expr).length + ([]:List Keyword).length) (backTo p1 (starEach [] cx.env)) (backToKw p1 (keywordEach [] cx.env))=true:=by rfl
 have hpos:methodCallPos true o cx.env apos p1=pure p1:=by unfold methodCallPos;simp [hl]
 unfold methodCall
 rw [hform]
 refine wpAny_bind (wpAny_holding ?_)
 show wpAny _ A (getMethod u "keys" _) _ _ W₁.s
 refine (ajH.dictKeys cx A W₁ st₁ a u _ _ _ True hA R₁ va ⟨⟨es,he,hnd⟩,trivial⟩).2 ?_
 refine wpAny_bind (wpAny_of_eq hpos ?_)
 refine ajU (aqv R₁ va he hnd) fun dd kvs e1_ r2_=>?_;subst e1_;obtain ⟨hs,hD,hk⟩:=r2_
 refine callWith_builtin (aqk rfl) (aq9 rfl (wpAny_items_nil ?_))
 show wpAny _ A (PySem.call (.builtin "dict.keys") [.ref dd]) _ _ _
 refine call_meetsIn PySem.F.slot_dict_keys hD.typeIs PySem.F.entry_dict_keys (PySem.F.args_dict_keys_1 _) (kdl_meets_keys (bytesKind S.prog S.w) dd hs) ⟨⟨kvs,hD⟩,?_⟩
 refine wpAny_items_nil ?_
 obtain ⟨l2,R2⟩:=R₁.keeps (s':={ W₁.s with heap:=W₁.s.heap.push { cls:=.type "dict_keys",data:=.fields #[.ref dd] } }) aX7 R₁.gens rfl
 obtain ⟨ep,hat⟩:=aKC hD
 have hvw:KdlKeysView (W₁.s.heap.push { cls:=.type "dict_keys",data:=.fields #[.ref dd] }) W₁.s.heap.objs.size dd:=⟨_,Heap.get?_push_size _ rfl,rfl,rfl⟩
 have hat2:Heap.DictAt (bytesKind S.prog S.w) (W₁.s.heap.push { cls:=.type "dict_keys",data:=.fields #[.ref dd] }) dd kvs ep:=hat.push _
 refine aZG hA.handled hvw hat2 (by rw [hk.keys];exact hnd) (by rw [hk.length];have:scanBound=4096:=rfl;walk_at "O") fun h' tk hkk ⟨oS,g1,g2⟩=>?_
 obtain ⟨l3,R3⟩:=R2.keeps (s':={ W₁.s with heap:=h',toks:=tk }) hkk R₁.gens rfl
 refine hQ _ _ _ _ (l₁.trans (l2.trans l3)) R3 ?_ hm₁
 rw [hk.keys] at g2
 refine bKN ⟨_,oS,fun q=>?_,g1,g2⟩
 obtain ⟨o',e'⟩:=R2.dlt _ q
 exact absurd (Heap.lt_size e') (Nat.lt_irrefl _)
noncomputable def dictEq (a b:Es):Bool:=decide (a.length=b.length) && a.all fun e=>match aqr b e.1 with | some v=>(match e.2,v with | .bytes x,.bytes y=>x == y | _,_=>false) | none=>false
noncomputable def akz (a:Es):Prop:=∀ e∈a,∃ x,e.2 = .bytes x
theorem bqp {es:Es}{k:List UInt8}{v:MV} (h:aqr es k=some v):∃ k',(k',v)∈es:=by
 unfold aqr at h
 cases hf:es.find? (fun e=>decide (e.1=k)) with
 | none=>rw [hf] at h;cases h
 | some e=>rw [hf] at h;cases h;exact ⟨e.1,List.mem_of_find?_eq_some hf⟩
theorem aXD {prog:Program}{w:World}{P:Params}{C:Addr}{W:Wd}{A:Around}{b:Es}{kb:List (List UInt8×Value)} (hb:VRk P C W b kb) (hbb:akz b):∀ {a:Es}{ka:List (List UInt8×Value)},VRk P C W a ka→akz a→
  KeqHits A W.s kb ka (a.all fun e=>match aqr b e.1 with | some v=>(match e.2,v with | .bytes x,.bytes y=>x == y | _,_=>false) | none=>false)
 | [],ka,h,_=>by rw [show ka=[] from h];exact .nil
 | e::a,ka,⟨v,r,h1,h2,h3⟩,hab=>by
  subst h1
  have ih:=aXD (prog:=prog) (w:=w) (A:=A) hb hbb h3 fun x hx=>hab x (.tail _ hx)
  obtain ⟨x,hx⟩:=hab e (.head _)
  rw [hx] at h2
  obtain ⟨t,rfl⟩:=ajz h2
  have hg:=hb.get e.1
  rw [List.all_cons]
  cases hq:aqr b e.1 with
  | none=>
   rw [hq] at hg
   exact .miss hg
  | some mv=>
   rw [hq] at hg
   revert hg;refine azC fun y q1 q2=>?_
   obtain ⟨k',hk'⟩:=bqp hq
   obtain ⟨z,hz⟩:=hbb _ hk'
   simp only at hz
   subst hz
   obtain ⟨t',rfl⟩:=ajz q2
   rw [hx]
   exact .hit q1 (EqAt.bytes _ _ _ _ _ _) ih
noncomputable def aXo (a b:MV):M MV:=fun st Q _=>∃ x y,ajZ st a=some x∧ajZ st b=some y∧(ajn x).Nodup∧(ajn y).Nodup∧akz x∧akz y∧Q (.bool (dictEq x y)) st
noncomputable def avE (a b:MV):M MV:=fun st Q _=>∃ x y,ajZ st a=some x∧ajZ st b=some y∧(ajn x).Nodup∧(ajn y).Nodup∧akz x∧akz y∧Q (.bool (!dictEq x y)) st
theorem aj4.dictEq:aj4 S d (compareOp .Eq) aXo:=by
 intro cx A W st QM EM Q E a b u v hA R va vb hm hQ hE
 revert hm;refine aJD fun x y h1 h2 n1 r8_=>?_;revert r8_;refine aZd fun n2 b1 b2 hm=>?_
 refine ajU (aqv R va h1 n1) fun d1 k1 e3_ r4_=>?_;subst e3_;obtain ⟨s1,D1,K1⟩:=r4_
 refine ajU (aqv R vb h2 n2) fun d2 k2 e5_ r6_=>?_;subst e5_;obtain ⟨s2,D2,K2⟩:=r6_
 refine keq_eq s1 s2 D1 D2 (by have:=hA.units;walk_at "O") (fun _=>aXD (prog:=S.prog) (w:=S.w) K2 b2 K1 b1) (hQ W st _ _ (Le.refl W) R ?_ hm)
 rw [K1.length,K2.length]
 have:(x.length == y.length)=decide (x.length=y.length):=by by_cases h:x.length=y.length<;>simp [h]
 rw [this]
 exact azP
theorem aj4.dictNe:aj4 S d (compareOp .NotEq) avE:=by
 intro cx A W st QM EM Q E a b u v hA R va vb hm hQ hE
 revert hm;refine aJD fun x y h1 h2 n1 r8_=>?_;revert r8_;refine aZd fun n2 b1 b2 hm=>?_
 refine ajU (aqv R va h1 n1) fun d1 k1 e0_ r1_=>?_;subst e0_;obtain ⟨s1,D1,K1⟩:=r1_
 refine ajU (aqv R vb h2 n2) fun d2 k2 e2_ r3_=>?_;subst e2_;obtain ⟨s2,D2,K2⟩:=r3_
 refine keq_ne s1 s2 D1 D2 (by have:=hA.units;walk_at "O") (fun _=>aXD (prog:=S.prog) (w:=S.w) K2 b2 K1 b1) (hQ W st _ _ (Le.refl W) R ?_ hm)
 rw [K1.length,K2.length]
 have:(x.length == y.length)=decide (x.length=y.length):=by by_cases h:x.length=y.length<;>simp [h]
 rw [this]
 exact azP
end
end Mine
end
section
namespace Mine
open PySem PySem.W PyProof.Rows PySem.Calls
noncomputable abbrev aJI (b:List UInt8):List Nat:=b.map UInt8.toNat
theorem bkh {a b:List UInt8} (h:aJI a=aJI b):a=b:=by
 induction a generalizing b with
 | nil=>cases b with
  | nil=>rfl
  | cons y b=>simp [aJI] at h
 | cons x a ih=>cases b with
  | nil=>simp [aJI] at h
  | cons y b=>
   simp only [aJI,List.map_cons,List.cons.injEq] at h
   rw [UInt8.toNat_inj.mp h.1,ih h.2]
theorem aV4:∀ a b:List UInt8,(Builtin.Bytes.order a b == .lt)=decide (aJI a < aJI b)
 | [],[]=>by simp [Builtin.Bytes.order,aJI]
 | [],y::b=>by simp [Builtin.Bytes.order,aJI]
 | x::a,[]=>by simp [Builtin.Bytes.order,aJI]
 | x::a,y::b=>by
  have ih:=aV4 a b
  simp only [Builtin.Bytes.order,aJI,List.map_cons,List.cons_lt_cons_iff]
  by_cases h1:x < y
  ·have:x.toNat < y.toNat:=UInt8.lt_iff_toNat_lt.mp h1
   simp [h1,this]
  ·by_cases h2:x > y
   ·have h3:y.toNat < x.toNat:=UInt8.lt_iff_toNat_lt.mp h2
    have h4:¬ x.toNat < y.toNat:=by walk_at "O"
    have h5:¬ x.toNat=y.toNat:=by walk_at "O"
    simp only [h1,if_false,h2,if_true]
    simp [h4,h5]
   ·have h3:¬ x.toNat < y.toNat:=fun q=>h1 (UInt8.lt_iff_toNat_lt.mpr q)
    have h4:¬ y.toNat < x.toNat:=fun q=>h2 (UInt8.lt_iff_toNat_lt.mpr q)
    have h5:x.toNat=y.toNat:=by walk_at "O"
    have e:x=y:=UInt8.toNat_inj.mp h5
    subst e
    simp only [h1,if_false,h2]
    rw [ih]
    simp [aJI]
@[reducible] noncomputable def ak8:PyProof.Rows.KeyKind where
 α:=List Nat
 blt a b:=decide (a < b)
 irrefl a:=by simpa using List.lt_irrefl a
 trans a b c h1 h2:=by simp only [decide_eq_true_eq] at *; exact List.lt_trans h1 h2
 negTrans a b c h:=by
  simp only [decide_eq_true_eq] at *
  by_cases hab:a < b
  ·exact .inl hab
  ·exact .inr (List.lt_of_le_of_lt (List.not_lt.mp hab) h)
 total a b h1 h2:=by simp only [decide_eq_false_iff_not] at *; exact List.le_antisymm (List.not_lt.mp h2) (List.not_lt.mp h1)
 keyOf v:=match v with | .bytes x _=>some (aJI x.toList) | _=>none
 dflt:=[]
namespace BF
theorem slot_lt:Slot "bytes" (cmpInfo .Lt).2.1 "bytes.__lt__":=
 .of (owner:="bytes") (n:="__lt__") (by rw [typeLookup_type,builtinLookup_eq_fast];kernel_rfl) (by decide +kernel) (by decide +kernel) (by decide +kernel)
  (by first | exact .inl (by decide +kernel) | exact .inr (by decide +kernel)) (by rw [isSubtype_type];kernel_rfl)
theorem entry_lt:entryFor table "bytes.__lt__" = some Builtin.«bytes.__lt__»:=entryFor_of_tree (by kernel_rfl)
theorem args_lt (a b:Value):argsOk "bytes.__lt__" ⟨[a,b],[]⟩:=by
 dsimp only [argsOk];rw [signature?_of (id:="bytes.__lt__") (n:=['_','_','t','l','_','_']) (o:=['s','e','t','y','b']) (by kernel_rfl) FB.owner_bytes];kernel_rfl
end BF
section
variable {prog:Program}{w:World}{A:Around}{E:Value→Shared→Prop}{s:Shared}
theorem ajS (s:Shared) (a:Array UInt8) (t:Tok):s.TypeIs (.bytes a t) "bytes":=rfl
theorem aZH {a b:List UInt8}{t u:Tok}{Q:Value→Shared→Prop} (h:Q (.bool (decide (aJI a < aJI b))) s) :
  wpAny (model prog w) A (call (.builtin "bytes.__lt__") [.bytes a.toArray t,.bytes b.toArray u]) Q E s:=by
 refine wpAny_call_entry BF.slot_lt (ajS s _ t) BF.entry_lt ?_ (BF.args_lt _ _)
 show wpAny _ _ (isInstance (.bytes b.toArray u) (.type "bytes")>>=fun r=>_) _ _ s
 refine wpAny_bind (wpAny_isInstance (ajS s _ u) F.sub_bytes_bytes ?_)
 exact wpAny_pure ⟨_,rfl,by rw [← aV4] at h;exact h⟩
theorem aXe {a b:List UInt8}{t u:Tok}{Q:Bool→Shared→Prop} (h:Q (decide (aJI a < aJI b)) s):wpAny (model prog w) A (oneLt' true (.bytes a.toArray t) (.bytes b.toArray u)) Q E s:=by
 rw [oneLt'_eq]
 refine wpAny_bind (wpAny_cRoomFor_byValue rfl ?_)
 refine wpAny_bind (wpAny_callSpecialIfBound?_slot (ajS s _ t) BF.slot_lt (aZH ?_))
 exact wpAny_truthy_bool h
end
theorem aJX:ak8.OneLt:=by
 intro prog w A E s x y a b Q ha hb h
 cases x<;>simp only [ak8,reduceCtorEq,Option.some.injEq] at ha
 cases y<;>simp only [ak8,reduceCtorEq,Option.some.injEq] at hb
 cases ha;cases hb
 rename_i x t y u
 have:=aXe (prog:=prog) (w:=w) (A:=A) (E:=E) (s:=s) (a:=x.toList) (b:=y.toList) (t:=t) (u:=u) (Q:=Q) h
 simpa using this
noncomputable def ajb:List Value→List (List UInt8)→Prop
 | [],bs=>bs=[]
 | v::vs,bs=>∃ b r t,bs=b::r∧v = .bytes b.toArray t∧ajb vs r
theorem ajb.of {P:Params}{C:Addr}{W:Wd}:∀ {bs:List (List UInt8)}{vs:List Value},VRs P C W (bs.map MV.bytes) vs→ajb vs bs
 | [],vs,h=>by
  rw [show vs=[] from h];rfl
 | b::bs,vs,h=>by
  rw [List.map_cons] at h
  revert h;refine aq2 fun v r e4_ r5_=>?_;subst e4_;obtain ⟨hv,hr⟩:=r5_
  obtain ⟨t,rfl⟩:=ajz hv
  exact ⟨b,bs,t,rfl,rfl,ajb.of hr⟩
theorem ajb.vrs {P:Params}{C:Addr}{W:Wd}:∀ {vs:List Value}{bs:List (List UInt8)},ajb vs bs→VRs P C W (bs.map MV.bytes) vs
 | [],bs,h=>by rw [show bs=[] from h];exact rfl
 | v::vs,bs,⟨b,r,t,h1,h2,h3⟩=>by
  subst h1;subst h2
  rw [List.map_cons]
  exact ⟨_,_,rfl,azA,ajb.vrs h3⟩
theorem ajb.all:∀ {vs:List Value}{bs:List (List UInt8)},ajb vs bs→∀ v∈vs,∃ b t,v = .bytes b t
 | [],_,_,v,hv=>by simp at hv
 | u::vs,bs,⟨b,r,t,h1,h2,h3⟩,v,hv=>by
  rcases List.mem_cons.mp hv with rfl | hv
  ·exact ⟨_,t,h2⟩
  ·exact ajb.all h3 v hv
noncomputable def akv:Value→List UInt8
 | .bytes b _=>b.toList
 | _=>[]
theorem ajb.map:∀ {vs:List Value}{bs:List (List UInt8)},ajb vs bs→vs.map akv=bs
 | [],_,h=>(show _=[] from h).symm
 | u::vs,bs,⟨b,r,t,h1,h2,h3⟩=>by
  subst h1;subst h2
  rw [List.map_cons,ajb.map h3];rfl
theorem aJ2:∀ (vs:List Value),(∀ v∈vs,∃ b t,v = .bytes b t)→ajb vs (vs.map akv)
 | [],_=>rfl
 | v::vs,h=>by
  refine azD (h v (.head _)) fun b t e6_=>?_;subst e6_
  exact ⟨_,_,t,rfl,rfl,aJ2 vs fun u hu=>h u (.tail _ hu)⟩
theorem akF:∀ {vs:List Value}{bs:List (List UInt8)},ajb vs bs→vs.mapM firstOfTuple'=pure (vs.map fun _=>none)
 | [],_,_=>by simp
 | v::vs,bs,⟨b,r,t,h1,h2,h3⟩=>by
  subst h2
  rw [List.mapM_cons,show firstOfTuple' (.bytes b.toArray t)=pure none from rfl,akF h3];simp
theorem ak3:∀ {vs:List Value}{bs:List (List UInt8)},ajb vs bs→vs.mapM typeOf=pure (vs.map fun _=>Value.type "bytes")
 | [],_,_=>by simp
 | v::vs,bs,⟨b,r,t,h1,h2,h3⟩=>by
  subst h2
  rw [List.mapM_cons,ak3 h3]
  show (pure (Value.type "bytes")>>=fun b=>pure _>>=fun bs=>pure (b::bs))=_
  simp
theorem aZx {v₁ v₂:Value}{vs:List Value}{bs:List (List UInt8)} (hS:ajb (v₁::v₂::vs) bs):keyKind' (v₁::v₂::vs).toArray=pure oneType':=by
 rw [keyKind'_eq,List.mapM_toArray,akF hS]
 simp only [map_pure,pure_bind]
 rw [if_neg (by simp),if_neg (by simp)]
 rw [oneTypeOnly'_eq,List.mapM_toArray,ak3 hS]
 simp only [map_pure,pure_bind]
 have hall:((List.map (fun _=>Value.type "bytes") (v₁::v₂::vs)).toArray.all fun x=>x == Value.type "bytes")=true:=by
  simp only [List.all_toArray,List.all_map,List.all_eq_true]
  intro _ _
  rfl
 have h0:(List.map (fun _=>Value.type "bytes") (v₁::v₂::vs)).toArray[0]? = some (Value.type "bytes"):=by simp
 rw [h0]
 simp only [hall,if_true,pure_bind,Option.isSome_some]
theorem aVB {xs:Array Keyed}{i:Nat} (hi:i < xs.size) {x:Array UInt8}{t:Tok}{q:Value} (hx:xs[i]=(.bytes x t,q)):KK ak8 xs i=aJI x.toList:=by
 unfold KK;rw [getElem?_pos xs i hi,hx];rfl
noncomputable abbrev bLe (a b:List UInt8):Prop:=¬ aJI b < aJI a
theorem aJ8 {vs:List Value}{bs:List (List UInt8)} (hS:ajb vs bs) {xs:Array Keyed} (hp:xs.Perm (pairsOf vs)) (hs:SortedToK ak8 xs (pairsOf vs).size) :
  ∃ ys,ajb (xs.map (·.2)).toList ys∧ys.Perm bs∧ys.Pairwise bLe:=by
 have hl:xs.toList.Perm (vs.zip vs):=by rw [← pairsOf_toList];exact Array.perm_iff_toList_perm.mp hp
 have hmem:∀ p,p∈xs.toList→p.1=p.2∧p.1∈vs:=fun p hp'=>mem_zip_self (hl.mem_iff.mp hp')
 refine ⟨xs.toList.map (fun p=>akv p.1),?_,?_,?_⟩
 ·have e:(xs.map (·.2)).toList=xs.toList.map (·.1):=by
   rw [Array.toList_map];exact List.map_congr_left fun p hp'=>(hmem p hp').1.symm
  rw [e]
  have h1:=aJ2 (xs.toList.map (·.1)) (by
   intro v hv
   refine ajl (List.mem_map.mp hv) fun p hp' e0_=>?_;subst e0_
   exact hS.all _ (hmem p hp').2)
  rwa [List.map_map] at h1
 ·have h1:=hl.map (fun p=>akv p.1)
  have e2:(vs.zip vs).map (fun p=>akv p.1)=bs:=by
   have:(vs.zip vs).map (fun p=>akv p.1)=((vs.zip vs).map Prod.fst).map akv:=by rw [List.map_map];rfl
   rw [this,List.map_fst_zip (Nat.le_refl _),hS.map]
  rwa [e2] at h1
 ·rw [List.pairwise_iff_getElem]
  intro i j hi hj hij
  have hi':i < xs.size:=by simpa using hi
  have hj':j < xs.size:=by simpa using hj
  have h1:=hs i j (Nat.le_of_lt hij) (by rw [← hp.size_eq];exact hj')
  refine azD (hS.all _ (hmem xs[i] (by simp)).2) fun x t ex=>?_
  refine azD (hS.all _ (hmem xs[j] (by simp)).2) fun y u ey=>?_
  rw [aVB hi' (x:=x) (t:=t) (q:=xs[i].2) (Prod.ext ex rfl),aVB hj' (x:=y) (t:=u) (q:=xs[j].2) (Prod.ext ey rfl)] at h1
  change decide (aJI y.toList < aJI x.toList)=false at h1
  simp only [List.getElem_map,Array.getElem_toList]
  rw [show akv xs[i].1=x.toList by rw [ex];rfl,show akv xs[j].1=y.toList by rw [ey];rfl]
  simpa using h1
theorem aKr {vs:List Value}{bs:List (List UInt8)} (hS:ajb vs bs):KeysOf ak8 (pairsOf vs):=by
 intro p hp
 rw [pairsOf_toList] at hp
 refine azD (hS.all _ (mem_zip_self hp).2) fun x t e=>?_
 exact ⟨aJI x.toList,by rw [e]⟩
theorem aQ8 {h:Heap}{a:Addr}{vs:List Value}{out:Array Value}{n:Nat} (ho:h.get? a=some (seqObj "list" vs.toArray n)):∃ e,(sortedHeap h a vs out).get? a=some (seqObj "list" out e):=by
 have ha:a < h.objs.size:=Heap.lt_size ho
 obtain ⟨e1,ho1⟩:∃ e1,(h.update a (Obj.mapSeq fun _=>#[])).get? a=some (seqObj "list" #[] e1):=⟨_,get?_update_seq ho (fun _=>#[])⟩
 have ho6:(((h.update a (Obj.mapSeq fun _=>#[])).push (seqObj "tuple" vs.toArray 0)).push (seqObj "list" #[] 0)).get? a=some (seqObj "list" #[] e1):=by
  rw [Heap.get?_push_ne _ _ _ (by rw [size_push',Heap.size_update];exact Nat.ne_of_lt (Nat.lt_succ_of_lt ha)),Heap.get?_push_ne _ _ _ (by rw [Heap.size_update];exact Nat.ne_of_lt ha)]
  exact ho1
 exact ⟨_,get?_update_seq ho6 _⟩
theorem aQ7 {h:Heap}{a:Addr}{vs:List Value}{out:Array Value}{b:Addr}{o:Obj} (hb:b≠a) (e:h.get? b=some o):(sortedHeap h a vs out).get? b=some o:=by
 unfold sortedHeap
 rw [Heap.get?_update_other _ _ (Ne.symm hb)]
 exact Heap.get?_push_of_some _ (Heap.get?_push_of_some _ ((Heap.get?_update_other _ _ (Ne.symm hb)).trans e))
section
variable {prog:Program}{w:World}{A:Around}{E:Value→Shared→Prop}{s:Shared}
theorem aJw {u:Value}{Q:Value→Shared→Prop}
  (h:wpAny (model prog w) A.in1 (collect u) (fun vs s₁=>∃ bs,ajb vs bs∧bs.length < 64∧∀ (D:Addr) (out:Array Value) (ys:List (List UInt8)) (h':Heap) (e:Nat),s₁.heap.get? D=none→(∀ b o,s₁.heap.get? b=some o→h'.get? b=some o)→
   h'.get? D=some (seqObj "list" out e)→ajb out.toList ys→ys.Perm bs→ys.Pairwise bLe→Q (.ref D) { s₁ with heap:=h' }) E s) :
  wpAny (model prog w) A (call (.builtin "sorted") [u]) Q E s:=by
 refine Calls.call_function_entry kind_sorted plain_sorted entry_sorted (args_sorted1 _) ?_
 refine wpAny_bind (m:=checkCount "sorted" 1 1 _) (wpAny_pure ?_)
 refine wpAny_bind (wpAny_mono h (fun vs s₁ hq=>?_) fun _ _ x=>x)
 revert hq;refine aZb fun bs hS h64 hq=>?_
 have hlen:vs.length=bs.length:=by rw [← hS.map,List.length_map]
 refine wpAny_bind (wpAny_newList ?_ (by rw [hlen,sizeLine_eq];walk_at "O"))
 have hoL:(s₁.heap.push (seqObj "list" vs.toArray 0)).get? s₁.heap.objs.size=some (seqObj "list" vs.toArray 0):=Heap.get?_push_size _ rfl
 show wpAny _ _ _ _ _ { s₁ with heap:=s₁.heap.push (seqObj "list" vs.toArray 0) }
 refine wpAny_bind (wpAny_holding (wpAny_call_entry slot_list_sort ⟨_,hoL,rfl⟩ entry_list_sort (list_sort_treeK aJX hoL (aKr hS) (fun v₁ v₂ rest e=>aZx (by rw [← e];exact hS)) (by walk_at "O") fun st' a1 a2=>⟨_,rfl,?_⟩) (args_list_sort _)))
 refine wpAny_pure ⟨_,rfl,?_⟩
 refine aKb (aJ8 hS a1 a2) fun ys y1 y2 y3=>?_
 obtain ⟨e,he⟩:=aQ8 (out:=(arrOf st').map (·.2)) hoL
 exact hq _ _ ys _ e (ajt _) (fun b o q=>aQ7 (Nat.ne_of_lt (Heap.lt_size q)) (Heap.get?_push_of_some _ q)) he y1 y2 y3
end
end Mine
end
section
set_option genSizeOf false
set_option genInjectivity false
namespace Mine
open PySem PySem.W PyProof.Rows PySem.Calls
theorem AOK.in1 {cx:Cx}{A:Around}{d:Nat} (h:AOK cx (d + 1) A):AOK cx d A.in1:=
 ⟨h.frames,by have:=h.depth;show A.depth + 4 * d + 110 < _;walk_at "O",by have:=h.units;show A.units + 1 + 16 * d + 16 < _;walk_at "O",h.handled⟩
theorem bkH {prog:Program}{w:World}{A:Around}{E:Value→Shared→Prop}{s:Shared}{r:Addr}{Q:Bool→Shared→Prop} (hT:s.TypeIs (.ref r) "set") (h:Q false s):wpAny (model prog w) A (Builtin.List.listLengthHint (.ref r)) Q E s:=by
 refine wpAny_bind (wpAny_specialOf hT PySem.F.slot_set_len.lookup ?_)
 generalize hid:("set.__len__" : String)=id0
 wp_delta
 rw [show splitId id0=some ("set","__len__") from by subst hid;decide +kernel]
 subst hid
 refine wpAny_bind (wpAny_isInstance (T:="set") (b:=true) hT (by rw [isSubtype_type];kernel_rfl) ?_)
 refine wpAny_ite_split (fun hab=>absurd hab (by decide)) (fun _=>?_)
 refine wpAny_ite_split (fun _=>?_) (fun hab=>absurd (by decide +kernel) hab)
 refine wpAny_bind (wpAny_typeOf hT ?_)
 exact wpAny_pure h
section
variable {S:ajA}{g:Sig}{d:Nat}
structure Coll (S:ajA) (W:Wd) (u:Value) (T:String) (r:Addr):Prop where
 eq:u = .ref r
 typ:∀ W':Wd,Le W W'→W'.s.TypeIs (.ref r) T
 notList:(Value.type T == Value.type "list")=false
 notTuple:(Value.type T == Value.type "tuple")=false
 hint:∀ (A:Around) (E:Value→Shared→Prop) (s:Shared) (Q:Bool→Shared→Prop),s.TypeIs (.ref r) T→Q false s→wpAny (model S.prog S.w) A (Builtin.List.listLengthHint (.ref r)) Q E s
theorem bqC {P:Params}{C:Addr}{W:Wd}{xs:List MV}{vs:List Value} (hl:vs.length=xs.length) (h:∀ (i:Nat) (v:Value) (mv:MV),vs[i]? = some v→xs[i]? = some mv→VR P C W mv v):VRs P C W xs vs:=by
 induction xs generalizing vs with
 | nil=>exact List.length_eq_zero_iff.mp hl
 | cons x xs ih=>
  cases vs with
  | nil=>simp at hl
  | cons v vs=>
   exact ⟨v,vs,rfl,h 0 v x rfl rfl,ih (by simpa using hl) fun i v mv h1 h2=>h (i + 1) v mv h1 h2⟩
set_option maxHeartbeats 1000000 in
theorem aVt {cx:Cx}{A:Around}{W:Wd}{st:MSt}{QM:List MV→MSt→Prop}{EM:Value→MSt→Prop}{Q:List Value→Shared→Prop}{E:Value→Shared→Prop}{a:MV}{u:Value}{T:String}{r:Addr}{mit:MV→M (List MV)}
  (hit:∀ d,aqn S d mit) (hA:AOK cx (d + 1) A) (R:Rel S cx W st) (va:VR S.w.params S.C W a u) (hc:Coll S W u T r) (hm:mit a st QM EM) (hr:W.s.heap.get? r≠none)
  (hsz:∀ xs st',QM xs st'→xs.length≤4096)
  (hQ:∀ W' st' xs vs,Le W W'→Rel S cx W' st'→VRs S.w.params S.C W' xs vs→QM xs st'→Q vs W'.s)
  (hE:EOk S cx W EM E) :
  wpAny (model S.prog S.w) A (collect u) Q E W.s:=by
 obtain ⟨rfl,htyp,hnl,hnt,hhint⟩:=hc
 have hh:=hA.handled
 refine wpAny_bind (wpAny_runValue (codeAny_builtin entry_proto_collect' ?_))
 rw [Around.under_plainId PySem.F.plain_proto_collect _]
 show wpAny _ A.in1 (newList []>>=fun l=>again (.builtin "list.__iadd__" ⟨[l,.ref r],[]⟩)) _ _ W.s
 refine wpAny_bind (wpAny_newObj_type ?_)
 refine wpAny_pure ⟨plainId_quiet PySem.F.plain_list_iadd _,codeAny_builtin entry_list_iadd' ?_⟩
 rw [Around.under_plainId PySem.F.plain_list_iadd _]
 show wpAny _ A.in1 (Builtin.List.listExtendWith (.ref W.s.heap.objs.size) (.ref r) (.ref W.s.heap.objs.size)) _ _ { W.s with heap:=W.s.heap.push { cls:=.type "list",data:=.seq #[] } }
 generalize hD:W.s.heap.objs.size=D
 have hDn:W.s.heap.get? D=none:=by subst hD;exact ajt _
 have hrD:r≠D:=fun e=>hr (e ▸ hDn)
 have hself:(W.s.heap.push { cls:=.type "list",data:=.seq #[] }).get? D=some { cls:=.type "list",data:=.seq #[] }:=by subst hD;exact Heap.get?_push_size _ rfl
 obtain ⟨l,R'⟩:=R.pinNew (s':={ W.s with heap:=W.s.heap.push { cls:=.type "list",data:=.seq #[] } }) (fun b o e=>Heap.get?_push_of_some _ e) R.gens rfl (ps:=[(D,({ cls:=.type "list",data:=.seq #[] }:Obj))])
  (fun p hp=>by rw [List.mem_singleton.mp hp];exact ⟨hDn,hself⟩)
 generalize hW1:(⟨{ W.s with heap:=W.s.heap.push { cls:=.type "list",data:=.seq #[] } },W.rho,fun b=>W.D b∨b∈[(D,({ cls:=.type "list",data:=.seq #[] }:Obj))].map (·.1)⟩:Wd)=W1 at l R'
 have e1:({ W.s with heap:=W.s.heap.push { cls:=.type "list",data:=.seq #[] } }:Shared)=W1.s:=by rw [← hW1]
 have hself1:W1.s.heap.get? D=some { cls:=.type "list",data:=.seq #[] }:=by rw [← hW1];exact hself
 rw [e1]
 refine wpAny_bind (wpAny_typeOf (T:=T) (htyp _ l) ?_)
 have h1:Builtin.List.listSameRef (.ref D) (.ref r)=false:=by simp [Builtin.List.listSameRef,Ne.symm hrD]
 simp only [h1,hnl,hnt,Bool.or_false,Bool.false_eq_true,if_false]
 refine wpAny_bind (hit d _ A.in1 W1 st QM EM _ _ a (.ref r) (AOK.pin hA.in1) R' (VR.mono l _ _ va) hm (fun W2 st2 xs I ps fp P St l2 R2 F hm2=>?_) fun W' st' e c s'' l' R' F' hm'=>?_)
 ·have hap:D∉ps.map (·.1):=F.ap (D,_) (List.mem_append_left _ (List.mem_singleton.mpr rfl))
  have hD2:=(R2.pins (D,{ cls:=.type "list",data:=.seq #[] }) (List.mem_append_right _ (List.mem_append_left _ (List.mem_singleton.mpr rfl))))
  have hSf:D∉fp:=fun hb=>(F.ro D hb hap).1 hD2.1
  have W':=(F.walks A.in1 hh).toS
  have key:∀ (h:Heap) (c₁ tk:Nat),St 0 h→(∀ b o,b≠D→W2.s.heap.get? b=some o→h.get? b=some o)→
    h.get? D=some { cls:=.type "list",data:=.seq #[] c₁ }→codeAny (model S.prog S.w) A (.builtin "list.extend.loop" ⟨[.ref D,.ref I,.ref D],[]⟩) (fun q s'=>∃ (W3:Wd) (ys:List Value),q = .ok (.ret (.ref D))∧s'=W3.s∧Le W W3∧Rel S cx W3 st2∧VRs S.w.params S.C W3 xs ys∧∃ c,W3.s.heap.get? D=some { cls:=.type "list",dict:=none,data:=.seq ys.toArray c,slots:=#[] }) { W2.s with heap:=h,toks:=tk }:=by
   intro h c₁ tk hst hk hS₁
   refine codeAny_extend_loopS W' (by have:=hsz _ _ hm2;rw [sizeLine_eq];walk_at "O") D hSf (.ref D) xs.length 0 _ #[] c₁ rfl (Nat.zero_le _) hst hS₁ (ItemsOf.nil _) fun s' acc' c' hm hS' hacc=>?_
   have hkk:∀ b o,b∉(ps++[(D,({ cls:=.type "list",data:=.seq #[] }:Obj))]).map (·.1)→W2.s.heap.get? b=some o→s'.heap.get? b=some o:=fun b o hb e=>by
    rw [List.map_append,List.mem_append,not_or] at hb
    have hbD:b≠D:=fun z=>hb.2 (by simp [z])
    refine hm.heap b o (fun z=>?_) (hk b o hbD e)
    rcases List.mem_cons.mp z with z | z
    ·exact hbD z
    ·exact hb.1 z
   have eg:=hm.eq_with
   have hg:s'.gens=W2.s.gens:=by rw [eg]
   have ho:s'.os=W2.s.os:=by rw [eg]
   have R2':Rel S (cx.pin (ps++[(D,({ cls:=.type "list",data:=.seq #[] }:Obj))])) W2 st2:=by
    have:=R2
    unfold Cx.pin at this;unfold Cx.pin
    simpa [List.append_assoc] using this
   obtain ⟨l3,R3⟩:=R2'.drop (s':=s') hkk (hg ▸ R2.gens) ho (fun p hp z=>by
    rw [List.map_append,List.mem_append] at z
    rcases z with z | z
    ·exact F.ap p (List.mem_append_right _ hp) z
    ·refine bke (R.pins p hp) fun _ y _=>?_
     have hb':p.1=D:=by simpa using z
     rw [hb',hDn] at y;cases y)
   refine ⟨_,acc'.toList,rfl,rfl,l.trans (l2.trans l3),R3,VRs.mono l3 _ _ (bqC (by rw [Array.length_toList];exact hacc.1) fun i v mv q1 q2=>F.items i v mv (hacc.2 i v (by simpa using q1)) q2),c',?_⟩
   simpa using hS'
  refine wpAny_bind (wpAny_holding (hhint _ _ _ _ (htyp _ (l.trans l2)) ?_))
  refine wpAny_ite_split (fun _=>?_) (fun _=>wpAny_pure ⟨plainId_quiet PySem.F.plain_extend_loop _,codeAny_mono (key _ 0 W2.s.toks F.st (fun b o _ e=>e) hD2.2.1) fun q s₂ y=>?_⟩)
  ·refine wpAny_bind (wpAny_rule ?_)
   refine wpAny_bind ?_
   show wpAny _ _ (updateSeq D (·.push .none)>>=fun _=>updateSeq D (·.pop)) _ _ _
   refine wpAny_bind (wpAny_updateSeq hD2.2.1 rfl ?_)
   have hS₂:=Heap.get?_update_self (Obj.mapSeq (·.push Value.none)) hD2.2.1 rfl
   refine wpAny_updateSeq (hz:=by seq_fits) hS₂ rfl ?_
   have hS₃:=Heap.get?_update_self (Obj.mapSeq (·.pop)) hS₂ rfl
   refine wpAny_pure ⟨plainId_quiet PySem.F.plain_extend_loop _,codeAny_mono (key _ _ W2.s.toks ?_ (fun b o hb e=>?_) hS₃) fun q s₂ y=>?_⟩
   ·refine (F.walks A.in1.in1 hh).frame 0 _ _ F.st fun b hb o e=>?_
    have hbS:b≠D:=fun h=>hSf (h ▸ hb)
    exact (Heap.get?_update_other _ _ (Ne.symm hbS)).trans ((Heap.get?_update_other _ _ (Ne.symm hbS)).trans e)
   ·exact (Heap.get?_update_other _ _ (Ne.symm hb)).trans ((Heap.get?_update_other _ _ (Ne.symm hb)).trans e)
   ·revert y;refine aq2 fun W3 ys e1_ r2_=>?_;subst e1_;obtain ⟨rfl,l3,R3,v3,c,g3⟩:=r2_
    show wpAny _ A (load D>>=_) _ _ _
    refine wpAny_bind (wpAny_load g3 ?_)
    refine wpAny_pure ?_
    exact hQ W3 st2 xs _ l3 R3 v3 hm2
  ·revert y;refine aq2 fun W3 ys e3_ r4_=>?_;subst e3_;obtain ⟨rfl,l3,R3,v3,c,g3⟩:=r4_
   show wpAny _ A (load D>>=_) _ _ _
   refine wpAny_bind (wpAny_load g3 ?_)
   refine wpAny_pure ?_
   exact hQ W3 st2 xs _ l3 R3 v3 hm2
 ·exact hE W' st' e c s'' (l.trans l') R'.unpin F'.unpin hm'
end
end Mine
end
section
set_option genSizeOf false
set_option genInjectivity false
namespace Mine
open PySem PySem.W PyProof.Rows PySem.Calls
section
variable {S:ajA}{g:Sig}{d:Nat}
noncomputable def bjG (bs:List (List UInt8)):M MV:=fun st Q _=>bs.length < 64∧∀ ys:List (List UInt8),ys.Perm bs→ys.Pairwise bLe→Q (.list (ys.map MV.bytes)) st
noncomputable def bQ1:MV→M MV
 | .set xs=>bjG xs
 | .dict es=>aqg (ajn es).Nodup (bjG (ajn es))
 | .list xs=>fun st Q E=>∃ bs:List (List UInt8),xs=bs.map MV.bytes∧bjG bs st Q E
 | _=>azk
noncomputable def aq6:List MV→M MV:=bZw bQ1
inductive bzv:MV→List (List UInt8)→Prop
 | set (xs):bzv (.set xs) xs
 | dict (es) (h:(ajn es).Nodup):bzv (.dict es) (ajn es)
 | list (bs):bzv (.list (bs.map MV.bytes)) bs
theorem bvf {a:MV}{st:MSt}{Q:MV→MSt→Prop}{E:Value→MSt→Prop} (h:bQ1 a st Q E):∃ bs,bzv a bs∧bjG bs st Q E:=by
 cases a<;>first | exact h.elim | skip
 ·revert h;refine azC fun bs e5_ h=>?_;subst e5_;exact ⟨bs,.list _,h⟩
 ·exact ⟨_,.dict _ h.1,h.2⟩
 ·exact ⟨_,.set _,h⟩
theorem bqq {as:List MV}{st:MSt}{Q:MV→MSt→Prop}{E:Value→MSt→Prop} (h:aq6 as st Q E):∃ a bs,as=[a]∧bzv a bs∧bs.length < 64∧∀ ys:List (List UInt8),ys.Perm bs→ys.Pairwise bLe→Q (.list (ys.map MV.bytes)) st:=by
 refine ajl (bzr h) fun a e6_ h1=>?_;subst e6_
 refine ajl (bvf h1) fun bs h2 h3=>?_
 exact ⟨a,bs,rfl,h2,h3⟩
theorem aqn.any (d:Nat):aqn S d aq7:=aqn.all
theorem aj2.sorted:aj2 S (d + 2) (.builtin "sorted") aq6:=by
 intro cx A W st QM EM Q E as us hA R vas hm hQ hE
 refine ajU (bqq hm) fun a bs e0_ r1_=>?_;subst e0_;obtain ⟨hc,h64,h9⟩:=r1_
 clear hm
 have laid:∀ (W1:Wd) (st1:MSt) (vs:List Value) (bs:List (List UInt8)),Le W W1→Rel S cx W1 st1→VRs S.w.params S.C W1 (bs.map MV.bytes) vs→bs.length < 64→(∀ ys:List (List UInt8),ys.Perm bs→ys.Pairwise bLe→QM (.list (ys.map MV.bytes)) st1)→
   ∃ bs,ajb vs bs∧bs.length < 64∧∀ (D:Addr) (out:Array Value) (ys:List (List UInt8)) (h':Heap) (e:Nat),W1.s.heap.get? D=none→(∀ b o,W1.s.heap.get? b=some o→h'.get? b=some o)→
   h'.get? D=some (seqObj "list" out e)→ajb out.toList ys→ys.Perm bs→ys.Pairwise bLe→Q (.ref D) { W1.s with heap:=h' }:=fun W1 st1 vs bs l R1 hv h64 hk=>by
  refine ⟨bs,ajb.of hv,h64,fun D out ys h' e hn hkp hD hy hp hs=>?_⟩
  obtain ⟨l2,R2⟩:=R1.keeps (s':={ W1.s with heap:=h' }) hkp R1.gens rfl
  refine hQ _ st1 _ _ (l.trans l2) R2 ?_ (hk ys hp hs)
  exact aZX ⟨D,out.toList,fun z=>(by obtain ⟨o,q⟩:=R1.dlt _ z;rw [hn] at q;cases q),⟨_,hD,rfl,e,by simp⟩,ajb.vrs hy⟩
 refine ajl (bZc vas) fun u e2_ va=>?_;subst e2_
 clear vas
 cases hc with
 | set _=>
  obtain ⟨r,o,hd,ho,hso⟩:=bZO va
  refine aJw (aVt (mit:=aq7) (QM:=fun ys st1=>∃ zs:List (List UInt8),zs.Perm bs∧ys=zs.map MV.bytes∧st1=st) (EM:=fun _ _=>False) aqn.any (AOK.in1 hA) R va ⟨rfl,fun W' l=>⟨o,(l.keep r o ho hd).1,hso.ex.1⟩,by decide,by decide,fun _ _ _ _=>bkH⟩ (fun ys hp=>⟨ys,hp,rfl,rfl⟩) (by rw [ho];simp) (fun ys st1 h=>?_) (fun W1 st1 ys vs l R1 hv hq=>?_) fun _ _ _ _ _ _ _ _ h=>h.elim)
  ·revert h;refine aZb fun zs hp e3_ e4_=>?_;subst e3_;subst e4_
   rw [List.length_map,hp.length_eq];walk_at "O"
  ·revert hq;refine aZb fun zs hp e5_ e6_=>?_;subst e5_;subst e6_
   exact laid W1 _ vs zs l R1 hv (by rw [hp.length_eq];exact h64) fun ys h1 h2=>h9 ys (h1.trans hp) h2
 | dict es hnd=>
  obtain ⟨r,o,ds,ep,hd,hs,ho,hex,hdt,hv⟩:=bk6 va
  refine aJw (aVt (mit:=aq7) (QM:=fun ys st1=>ys=(ajn es).map MV.bytes∧st1=st) (EM:=fun _ _=>False) aqn.any (AOK.in1 hA) R va ⟨rfl,fun W' l=>⟨o,(l.keep r o ho hd).1,hex.1⟩,by decide,by decide,fun _ _ _ _=>kdl_hint_dict⟩ ⟨hnd,rfl,rfl⟩ (by rw [ho];simp) (fun ys st1 h=>?_) (fun W1 st1 ys vs l R1 hv hq=>?_) fun _ _ _ _ _ _ _ _ h=>h.elim)
  ·obtain ⟨rfl,rfl⟩:=h
   rw [List.length_map];walk_at "O"
  ·obtain ⟨rfl,rfl⟩:=hq
   exact laid W1 _ vs _ l R1 hv h64 h9
 | list bs=>
  obtain ⟨r,vs,hd,hl,hv⟩:=aJa va
  have hlen:vs.length=bs.length:=by rw [VRs.length hv,List.length_map]
  refine aJw (collect_list hl ?_ (by rw [hlen,sizeLine_eq];walk_at "O"))
  obtain ⟨l1,R1⟩:=R.keeps (s':={ W.s with heap:=(W.s.heap.push (seqObj "list" #[] 0)).update W.s.heap.objs.size (Obj.mapSeq (·++vs.toArray)) }) (fun b o e=>(Heap.get?_update_other _ _ (Nat.ne_of_gt (Heap.lt_size e))).trans (Heap.get?_push_of_some _ e)) R.gens rfl
  exact laid _ st vs bs l1 R1 (VRs.mono l1 _ _ hv) h64 h9
end
end Mine
end
section
set_option genSizeOf false
set_option genInjectivity false
namespace Mine
open PySem PySem.W PyProof.Rows PySem.Calls
section
variable {S:ajA}{g:Sig}{d:Nat}
structure aXR (S:ajA):Prop where
 dict:∃ cd,clsIn S.K S.C=some cd∧cd.hasDict=true
 ga:findIn S.K (.ref S.C) "__getattribute__" = some (some (.builtin "object.__getattribute__"))
 gk:findIn S.K (.ref S.C) "__getattr__" = some none
 refs:findIn S.K (.ref S.C) "_refs" = some none
 seq:noSeq S.K S.C=true
noncomputable abbrev aVP (h1 h2:Int) (t1 t2:Tok) (r:Addr) (pe:Value):List DictEntry:=[⟨h1,.str (Str.ofString "_refs") t1,.ref r⟩,⟨h2,.str (Str.ofString "_peeled") t2,pe⟩]
theorem akR {cx:Cx}{W:Wd}{st:MSt}{i:Nat}{u:Value} (R:Rel S cx W st) (va:VR S.w.params S.C W (.refs i) u) :
  ∃ a dx h1 h2 t1 t2 r pe ep,u = .ref a∧InstAt W.s.heap a (instObj S.C dx) S.C (some (dictOf (aVP h1 h2 t1 t2 r pe) ep))∧W.rho[i]? = some r:=by
 obtain ⟨a,dx,t1,t2,h1,h2,r,pe,ep,hd,ho,hd2,ho2,hr⟩:=bQ8 va
 exact ⟨a,dx,h1,h2,t1,t2,r,pe,ep,rfl,⟨ho,rfl,rfl,ho2⟩,hr⟩
theorem aVO {h1 h2:Int}{t1 t2:Tok}{r:Addr}{pe:Value}{ep:Nat}:lookIn (Str.ofString "_refs") (dictOf (aVP h1 h2 t1 t2 r pe) ep)=some (some (.ref r)):=by
 rw [lookIn_dict];kernel_rfl
theorem bjS {h1 h2:Int}{t1 t2:Tok}{r:Addr}{pe:Value}{ep:Nat}{name:Str} (n1:(Str.ofString "_refs" == name)=false) (n2:(Str.ofString "_peeled" == name)=false):lookIn name (dictOf (aVP h1 h2 t1 t2 r pe) ep)=some none:=by
 rw [lookIn_dict]
 unfold PySem.W.getL aVP
 have e1:(Value.str (Str.ofString "_refs") t1).isStr name=false:=n1
 have e2:(Value.str (Str.ofString "_peeled") t2).isStr name=false:=n2
 simp only [List.find?_cons,e1,e2,List.find?_nil]
 rfl
noncomputable def azB:MV→M MV
 | .refs i=>ret (.obj i)
 | _=>azk
theorem bk1 {a:MV}{st:MSt}{Q:MV→MSt→Prop}{E:Value→MSt→Prop} (h:azB a st Q E):∃ i,a = .refs i∧Q (.obj i) st:=by
 cases a<;>first | exact h.elim | exact ⟨_,rfl,h⟩
theorem aj5.refsAttr {x:Str}{np pos:Pos}{mo:M MV} (C:aXR S) (ho:aj5 S g d (.Name x np) mo):aj5 S g d (.Attribute (.Name x np) "_refs" pos) (bnd mo azB):=by
 refine ⟨fun cx A W st QM EM Q E hg hA R hm hQ hE=>?_⟩
 refine Attribute_name (ho.then hg hA R hm (fun W₁ st₁ a u l₁ R₁ va hm₁=>?_) hE)
 refine ajl (bk1 hm₁) fun i e0_ h9=>?_;subst e0_
 clear hm₁
 refine akZ (akR R₁ va) fun a dx h1 h2 t1 r8_=>?_;revert r8_;refine aJC fun t2 r pe ep e1_ r2_=>?_;subst e1_;obtain ⟨I,hr⟩:=r2_
 refine ajl C.dict fun cd hc hd=>?_
 obtain ⟨l,R'⟩:=R₁.same (s':={ W₁.s with toks:=W₁.s.toks + 1 }) rfl rfl rfl
 refine get_value (R₁.stat.kin.keeps R₁.stays) I C.ga (v:=.ref r) ?_ rfl (hQ _ _ _ _ (l₁.trans l) R' ?_ h9)
 ·unfold findObj
  rw [hc,C.refs]
  have:PySem.W.ownOf cd (some (dictOf (aVP h1 h2 t1 t2 r pe) ep)) (Str.ofString "_refs")=some (some (.ref r)):=by
   unfold PySem.W.ownOf
   rw [hd,if_pos rfl]
   exact aVO
  show (PySem.W.ownOf cd (some (dictOf (aVP h1 h2 t1 t2 r pe) ep)) (Str.ofString "_refs")).bind _=_
  rw [this]
  rfl
 ·exact bZh ⟨r,hr⟩
noncomputable def ajK:MV→MSt→Prop→Prop
 | .refs _,_,p=>p
 | _,_,_=>False
theorem aZy {a:MV}{st:MSt}{p:Prop} (h:ajK a st p):(∃ b,a = .refs b)∧p:=by cases a<;>first | exact h.elim | exact ⟨⟨_,rfl⟩,h⟩
theorem ajH.refs {name:Str}{f:Addr} (C:aXR S) (hf:findIn S.K (.ref S.C) name=some (some (.ref f))) (ht:isFn S.K (.ref f)=true) (n1:(Str.ofString "_refs" == name)=false) (n2:(Str.ofString "_peeled" == name)=false) :
  ajH S d name ajK (.ref f):=by
 intro cx A W st a v pl Q E p hA R va hk
 obtain ⟨⟨i,rfl⟩,hp⟩:=aZy hk
 refine ⟨hp,fun hq=>?_⟩
 refine akZ (akR R va) fun a dx h1 h2 t1 r8_=>?_;revert r8_;refine aJC fun t2 r pe ep e3_ r4_=>?_;subst e3_;obtain ⟨I,hr⟩:=r4_
 exact method_fn (R.stat.kin.keeps R.stays) I C.ga C.gk hf (beq_iff_eq.mp ht) (by show (lookIn name (dictOf _ _)).map _=_;rw [bjS n1 n2];rfl) hq
theorem bQO {K:Frag}{f:Addr} (h:fnIn K f=true):∃ c d fd sl,K.lookup f=some ⟨c,d,.func fd,sl⟩:=by
 have e:∀ x:Option Obj,(match x with | some ⟨_,_,.func _,_⟩=>true | _=>false)=true→∃ c d fd sl,x=some ⟨c,d,.func fd,sl⟩:=fun x=>by
  rcases x with _ | ⟨c,d,dt,sl⟩
  ·exact fun h=>absurd (show false=true from h) (by decide)
  ·cases dt<;>intro h<;>first | exact ⟨_,_,_,_,rfl⟩ | exact absurd (show false=true from h) (by decide)
 exact e _ h
noncomputable def aQM (mc:List MV→M MV) (a b:MV):M MV:=fun st Q E=>ajK a st (mc [a,b] st Q E)
theorem aj5.itemR {o i:Expr}{pos:Pos}{mo mi:M MV}{f:Addr}{mc:List MV→M MV} (C:aXR S) (hs:findIn S.K (.ref S.C) "__getitem__" = some (some (.ref f))) (hf:fnIn S.K f=true) (hfn:isFn S.K (.ref f)=true) (ho:aj5 S g (d + 1) o mo) (hi:aj5 S g (d + 1) i mi) (hc:aj2 S d (.ref f) mc)
  (hsl:∀ x i',subscripted i true x i'=runValue (.builtin "lifetime.subscript" ⟨[x,i'],[]⟩)) :
  aj5 S g (d + 1) (.Subscript o i pos) (bnd mo fun a=>bnd mi fun b=>aQM mc a b):=by
 refine ⟨fun cx A W st QM EM Q E hg hA R hm hQ hE=>?_⟩
 refine Subscript_ (ho.then hg hA R hm (fun W₁ st₁ a u l₁ R₁ va hm₁=>?_) hE)
 refine hi.then hg hA R₁ hm₁ (fun W₂ st₂ b v l₂ R₂ vb hm₂=>?_) (hE.tr l₁)
 obtain ⟨⟨k,rfl⟩,hm₂⟩:=aZy hm₂
 have va2:=VR.mono l₂ _ _ va
 refine akZ (akR R₂ va2) fun a dx h1 h2 t1 r8_=>?_;revert r8_;refine aJC fun t2 r pe ep e5_ r6_=>?_;subst e5_;obtain ⟨I,hr⟩:=r6_
 have X:=R₂.stat.kin.keeps R₂.stays
 have body:wpAny (model S.prog S.w) A.in1 (PySem.call (Value.ref f) [Value.ref a,v]) Q E W₂.s:=
  hc cx A.in1 W₂ st₂ QM EM Q E _ _ hA.in1 R₂ (by exact ⟨_,_,rfl,va2,_,_,rfl,vb,rfl⟩) hm₂ (hQ.tr (l₁.trans l₂)) (hE.tr (l₁.trans l₂))
 refine bxw (bQO hf) fun _ _ _ _ e=>?_
 ·skip
  refine wpAny_bind (wpAny_bind (wpAny_bind (I.type.here ((looks_findIn X hs).here ?_))))
  dsimp only
  refine wpAny_bind (wpAny_load (X _ _ e) (wpAny_pure ?_))
  dsimp only
  rw [hsl]
  refine wpAny_bind (wpAny_runValue (codeAny_builtin entry_sub ?_))
  refine wpAny_bind (special_fn X I hs (beq_iff_eq.mp hfn) (wpAny_mono body (fun v s' z=>?_) fun _ _ z=>z))
  refine wpAny_pure ?_
  show wpAny _ A (letTemporaryGo o (.ref a) v>>=fun _=>pure v) Q E s'
  exact wpAny_bind (wpAny_letTemporaryGo (wpAny_pure z))
noncomputable def bkq (mc:List MV→M MV) (a b c:MV):M Unit:=fun st Q E=>ajK a st (mc [a,b,c] st (fun _=>Q ()) E)
theorem azb.setR {f:Addr}{mc:List MV→M MV} (C:aXR S) (hs:findIn S.K (.ref S.C) "__setitem__" = some (some (.ref f))) (hfn:isFn S.K (.ref f)=true) (hc:aj2 S d (.ref f) mc):azb S d setItem (bkq mc):=by
 intro cx A W st QM EM Q E a b c u v w hA R va vb vc hm hQ hE
 obtain ⟨⟨k,rfl⟩,hm⟩:=aZy hm
 refine akZ (akR R va) fun a dx h1 h2 t1 r8_=>?_;revert r8_;refine aJC fun t2 r pe ep e0_ r1_=>?_;subst e0_;obtain ⟨I,hr⟩:=r1_
 have X:=R.stat.kin.keeps R.stays
 refine wpAny_holding (wpAny_bind (wpAny_bind (I.type.here ?_)))
 refine wpAny_bind ((anyM_none X C.seq).here ?_)
 rw [if_pos (show (!false)=true from rfl)]
 refine wpAny_pure (wpAny_bind (special_fn X I hs (beq_iff_eq.mp hfn) ?_))
 refine hc cx A W st (fun _=>QM ()) EM _ E _ _ hA R (by exact ⟨_,_,rfl,va,_,_,rfl,vb,_,_,rfl,vc,rfl⟩) hm (fun W' st' x y l' R' _ hq=>wpAny_pure (hQ W' st' l' R' hq)) hE
noncomputable def bZm (mc:List MV→M MV) (mt:MV→M Bool) (b a:MV):M MV:=fun st Q E=>ajK a st (bnd (mc [a,b]) (fun r=>bnd (mt r) fun t=>ret (.bool t)) st Q E)
theorem aj4.inR {f:Addr}{mc:List MV→M MV}{mt:MV→M Bool} (C:aXR S) (hs:findIn S.K (.ref S.C) "__contains__" = some (some (.ref f))) (hfn:isFn S.K (.ref f)=true) (hc:aj2 S d (.ref f) mc) (ht:TB S d mt):aj4 S d (compareOp .In) (bZm mc mt):=by
 intro cx A W st QM EM Q E b a v u hA R vb va hm hQ hE
 obtain ⟨⟨k,rfl⟩,hm⟩:=aZy hm
 refine akZ (akR R va) fun a dx h1 h2 t1 r8_=>?_;revert r8_;refine aJC fun t2 r pe ep e2_ r3_=>?_;subst e2_;obtain ⟨I,hr⟩:=r3_
 have X:=R.stat.kin.keeps R.stays
 show wpAny _ _ (contains (.ref a) v>>=fun r=>pure (Value.bool r)) _ _ _
 refine wpAny_bind (wpAny_holding (wpAny_bind (wpAny_bind (I.type.here ((looks_findIn X hs).here ?_)))))
 rw [if_neg (by simp)]
 refine wpAny_bind (unlessNone_K X I hs hfn ?_)
 refine hc cx A W st _ EM _ E _ _ hA R (by exact ⟨_,_,rfl,va,_,_,rfl,vb,rfl⟩) hm (fun W1 st1 x y l1 R1 v1 hm1=>?_) hE
 refine wpAny_mono (ht cx A W1 st1 _ EM _ E x y hA R1 v1 hm1 (fun W2 st2 x2 y2 l2 R2 e2 hm2=>wpAny_pure (a:=Value.bool y2) (hQ W2 st2 _ _ (l1.trans l2) R2 (by subst e2;exact azP) hm2)) (hE.tr l1)) (fun _ _ z=>z) fun _ _ z=>z
end
end Mine
end
section
namespace Mine
open PySem PySem.W PyProof.Rows PySem.Calls
section
variable {S:ajA}{g:Sig}{d:Nat}
noncomputable def axo:M MV:=fun st Q _=>Q (.refs st.objs.length) ⟨st.loc,st.objs++[.dict []]⟩
theorem aj5.newRefs {x:Str}{np dp pos p1 p2 p3 p4 p5 p6 p7 p8:Pos}{fI:Addr}{fd:FuncData}{oc:Value}{od:Option Addr}{osl:Array (Option Value)}
  (C:aXR S) (hn:Nm S g (.Name x np) (.ref S.C)) (hk:keepIn S.K (.ref S.C)=true) (hmk:makesIn S.K S.C=true)
  (hi:findIn S.K (.ref S.C) "__init__" = some (some (.ref fI))) (hfi:typeIn S.K (.ref fI)=some (.type "function"))
  (hsa:findIn S.K (.ref S.C) "__setattr__" = some (some (.builtin "object.__setattr__"))) (hpo:plainOver S.K S.C=true) (hd:hasDictIn S.K S.C=true)
  (ht1:takerIn S.K S.C "_refs" = some none) (ht2:takerIn S.K S.C "_peeled" = some none)
  (ho:S.K.lookup fI=some ⟨oc,od,.func fd,osl⟩) (hcd:codeIn S.K fd.code fd.qualname=true)
  (hbody:fd.body = .stmts [.Assign [.Attribute (.Name "self" p1) "_refs" p2] (.Name "refs" p3) p4,.Assign [.Attribute (.Name "self" p5) "_peeled" p6] (.Dict [] [] p7) p8])
  (hkd:fd.scope.kind = .function) (hco:fd.scope.isCoroutine=false) (hgen:fd.scope.isGenerator=false) (hcell:∀ y∈fd.scope.names,y.2≠.cell)
  (hb:∀ (s:Shared) (a b:Value),S.K.In s.heap→BindsTo s fd ⟨[a,b],[]⟩ [("self",a),("refs",b)])
  (hl1:fd.scope.names.lookup (Str.ofString "self")=some .local) (hl2:fd.scope.names.lookup (Str.ofString "refs")=some .local) :
  aj5 S g (d + 1) (.Call (.Name x np) [.Dict [] [] dp] [] pos) axo:=by
 refine ⟨fun cx A W st QM EM Q E hg hA R hm hQ hE=>?_⟩
 have hdep:=hA.depth
 refine wpAny_Call_ofName (hn cx A W st _ _ hg R ?_)
 refine callWith_K (K:=S.K) (h₀:=cx.base) R.stat.kin hk ?_
 have ha:ajw S g (d + 1) pos [.Dict [] [] dp] _:=ajw.cons (aj5.dictNew (pos:=dp)) ajw.nil rfl
 refine az7.then ha hg hA R (QM:=fun as st'=>as=[.obj st.objs.length]∧st'=⟨st.loc,st.objs++[.dict []]⟩) (EM:=fun _ _=>False) ⟨rfl,rfl⟩ (fun W₁ st₁ as us l₁ R₁ vas hm₁=>?_) (fun _ _ _ _ _ _ _ _ z=>z.elim)
 obtain ⟨rfl,rfl⟩:=hm₁
 revert vas;refine aq2 fun u _ e4_ r5_=>?_;subst e4_;obtain ⟨vu,rfl⟩:=r5_
 obtain ⟨r,hr⟩:=bzH vu
 have kin1:S.K.In W₁.s.heap:=R₁.stat.kin.keeps R₁.stays
 refine ⟨kin1,?_⟩
 have hlim:W₁.s.heap.NoLimit:=R₁.stat.nolimit.keeps R₁.stays
 have fin:=hQ
 rcases hW:W₁.s with ⟨hh,gg,dw,tk,os⟩
 rw [hW] at kin1 hlim
 have Y:=makes_of (M:=model S.prog S.w) kin1 hmk
 refine wpAny_call (make_core Y (looks_findIn kin1 hi) (fun self=>bind_fn kin1 self hfi) (.inl rfl) ?_)
 have kp:∀ b o,hh.get? b=some o→((hh.push emptyDict).push (instObj S.C hh.objs.size)).get? b=some o:=fun b o e=>Heap.get?_push_of_some _ (Heap.get?_push_of_some _ e)
 have kin2:=kin1.keeps kp
 refine codeAny_call_def (s:=⟨(hh.push emptyDict).push (instObj S.C hh.objs.size),gg,dw,tk,os⟩) ?_ (kin2 _ _ ho) rfl (hlim.keeps kp) (codeRec_of kin2 hcd) hbody (hb _ _ _ kin2) hcell (fun y hy=>?_) (fun h₀ hL hk₀=>?_) hco hgen hkd
 ·have:(A.under (.builtin "type.__call__" ⟨.ref S.C::[.ref r],[]⟩)).depth=A.depth + 1:=rfl
  show (A.under (.builtin "type.__call__" ⟨.ref S.C::[.ref r],[]⟩)).depth < recursionLimit
  rw [this];walk_at "O"
 ·rcases List.mem_cons.mp hy with rfl | hy
  ·exact hl1
  ·rcases List.mem_cons.mp hy with rfl | hy
   ·exact hl2
   ·cases hy
 ·have kO:∀ y,fd.scope.names.lookup y=some .local→(callEnv fd ((hh.push emptyDict).push (instObj S.C hh.objs.size)).objs.size fI).kindOf y=some .local:=fun y h=>h
  have hkf:(callEnv fd ((hh.push emptyDict).push (instObj S.C hh.objs.size)).objs.size fI).scope.kind = .function:=hkd
  have hsz:((hh.push emptyDict).push (instObj S.C hh.objs.size)).objs.size=hh.objs.size + 2:=by rw [Heap.size_push,Heap.size_push]
  have hx:((hh.push emptyDict).push (instObj S.C hh.objs.size)).get? (hh.objs.size + 1)=some (instObj S.C hh.objs.size):=by heap_get
  have hdx:((hh.push emptyDict).push (instObj S.C hh.objs.size)).get? hh.objs.size=some emptyDict:=Heap.get?_push_of_some _ (Heap.get?_push_size _ rfl)
  have v0:([(Str.ofString "self",Value.ref (hh.objs.size + 1)),(Str.ofString "refs",Value.ref r)].reverse.lookup (Str.ofString "self"))=some (.ref (hh.objs.size + 1)):=by kernel_rfl
  have v1:([(Str.ofString "self",Value.ref (hh.objs.size + 1)),(Str.ofString "refs",Value.ref r)].reverse.lookup (Str.ofString "refs"))=some (.ref r):=by kernel_rfl
  rw [hsz] at hL
  have F0:Fr hh (hh.objs.size + 2) h₀ _:=⟨hL,fun b o e=>hk₀ b o (kp b o e),by walk_at "O"⟩
  have N0:News hh (hh.objs.size + 2) h₀ [(hh.objs.size,dictOf [] 0),(hh.objs.size + 1,instObj S.C hh.objs.size)]:=fun p hp=>by
   rcases List.mem_cons.mp hp with rfl | hp
   ·exact ⟨hk₀ _ _ hdx,by show hh.objs.size≠_;walk_at "O",Heap.get?_none_of_le (Nat.le_refl _)⟩
   ·rw [List.mem_singleton.mp hp]
    exact ⟨hk₀ _ _ hx,by show hh.objs.size + 1≠_;walk_at "O",Heap.get?_none_of_le (Nat.le_succ _)⟩
  have inst:∀ {h:Heap}{od:Obj}{news:List (Addr×Obj)},News hh (hh.objs.size + 2) h news→(hh.objs.size,od)∈news→(hh.objs.size + 1,instObj S.C hh.objs.size)∈news→InstAt h (hh.objs.size + 1) (instObj S.C hh.objs.size) S.C (some od):=fun N m1 m2=>⟨(N _ m2).1,rfl,rfl,(N _ m1).1⟩
  refine wpAny_execs_cons (plainObj_wpAny_Assign_Attribute ?_ rfl)
  refine wpAny_Name (wpAny_loadName_local hkf (kO _ hl2) (by rw [hsz];exact F0.ns) v1 ?_) rfl
  refine wpAny_Name (wpAny_loadName_local hkf (kO _ hl1) (by rw [hsz];exact F0.ns) v0 ?_) rfl
  refine set_dict (es:=[]) (n:=0) F0 kin1 N0 (inst N0 (.head _) (.tail _ (.head _))) rfl hsa hpo ht1 hd rfl rfl (.head (by
   intro p hp;rw [List.mem_singleton.mp hp];show hh.objs.size + 1≠hh.objs.size;walk_at "O")) (by show 1≤1000;walk_at "O") fun h1 F1 N1=>?_
  refine wpAny_execs_cons (plainObj_wpAny_Assign_Attribute (wpAny_Dict_empty ?_) rfl)
  have F2:=F1.push { cls:=.type "dict",data:=.dict #[] }
  have N2:News hh (hh.objs.size + 2) (h1.push { cls:=.type "dict",data:=.dict #[] }) _:=fun p hp=>⟨Heap.get?_push_of_some _ (N1 p hp).1,(N1 p hp).2⟩
  refine wpAny_Name (wpAny_loadName_local hkf (kO _ hl1) (by rw [hsz];exact F2.ns) v0 ?_) rfl
  refine set_dict F2 kin1 N2 (inst N2 (.head _) (.tail _ (.head _))) rfl hsa hpo ht2 hd rfl rfl (.head (by
   intro p hp;rw [List.mem_singleton.mp hp];show hh.objs.size + 1≠hh.objs.size;walk_at "O")) (by show 2≤1000;walk_at "O") fun h2 F3 N3=>?_
  refine wpAny_execs_nil ⟨rfl,?_⟩
  have keepAll:∀ b o,W₁.s.heap.get? b=some o→h2.get? b=some o:=fun b o e=>F3.keep b o (by rw [hW] at e;exact e)
  obtain ⟨l2,R2⟩:=R₁.keeps (s':=⟨h2,gg,dw,_,os⟩) keepAll (by have:=R₁.gens;rw [hW] at this;exact this) (by rw [hW])
  refine hQ _ _ _ _ (l₁.trans l2) R2 ?_ hm
  have nD:∀ b,hh.objs.size≤b→¬ W₁.D b:=fun b hb z=>by
   obtain ⟨o,e⟩:=R₁.dlt b z
   rw [hW] at e
   have:=Heap.lt_size e
   exact absurd this (Nat.not_lt.mpr hb)
  exact bZE ⟨hh.objs.size + 1,hh.objs.size,_,_,_,_,r,_,_,nD _ (Nat.le_succ _),(N3 _ (.tail _ (.head _))).1,nD _ (Nat.le_refl _),(N3 _ (.head _)).1,hr⟩
end
end Mine
end
section
namespace Mine
open PySem PySem.W PyProof.Rows PySem.Calls
section
variable {S:ajA}{g:Sig}{d:Nat}
theorem ajf.cmp2 {l r1 r2:Expr}{op1 op2:CmpOp}{pos:Pos}{ml m1 m2:M MV}{o1 o2:MV→MV→M MV}{t1 t2:MV→M Bool} (hl:aj5 S g d l ml) (h1:aj5 S g d r1 m1) (h2:aj5 S g d r2 m2)
  (ho1:aj4 S d (compareOp op1) o1) (ho2:aj4 S d (compareOp op2) o2) (ht1:TB S d t1) (ht2:TB S d t2) (hb:lastMarks [op1,op2] [r1,r2]=false) :
  ajf S g d (.Compare l [op1,op2] [r1,r2] pos) (bnd ml fun a=>bnd m1 fun b=>bnd (o1 a b) fun c=>bnd (t1 c) fun t=>cond t (bnd m2 fun e=>bnd (o2 b e) t2) (ret false)):=by
 refine ⟨fun cx A W st QM EM Q E hg hA R hm hQ hE=>?_⟩
 refine isTrue_chain (hl.then hg hA R hm (fun W₁ st₁ a u l₁ R₁ va hm₁=>?_) hE) hb
 refine test_link ?_
 refine h1.then hg hA R₁ hm₁ (fun W₂ st₂ b v l₂ R₂ vb hm₂=>?_) (hE.tr l₁)
 refine ho1 cx A W₂ st₂ _ EM _ E a b u v hA R₂ (VR.mono l₂ _ _ va) vb hm₂ (fun W₃ st₃ x y l₃ R₃ vx hm₃=>?_) (hE.tr (l₁.trans l₂))
 refine ht1 cx A W₃ st₃ _ EM _ E x y hA R₃ vx hm₃ (fun W₄ st₄ t t' l₄ R₄ e hm₄=>?_) (hE.tr (l₁.trans (l₂.trans l₃)))
 subst e
 have l04:=l₁.trans (l₂.trans (l₃.trans l₄))
 cases t with
 | false=>exact hQ _ _ _ _ l04 R₄ rfl hm₄
 | true=>
  show wpAny _ _ (testChain pos v [op2] [eval r2 cx.env]) _ _ _
  show wpAny _ _ (do
   let rv ← holding [v] (eval r2 cx.env)
   standAt pos
   let c ← operate [v,rv] (compareOp op2 v rv)
   holding [c] (truthy c)) _ _ _
  refine wpAny_bind (wpAny_holding (h2.then hg hA R₄ hm₄ (fun W₅ st₅ b2 v2 l₅ R₅ vb2 hm₅=>?_) (hE.tr l04)))
  refine wpAny_bind (wpAny_standAt (wpAny_bind (wpAny_operate' ?_)))
  refine ho2 cx A W₅ st₅ _ EM _ E b b2 v v2 hA R₅ (VR.mono (l₃.trans (l₄.trans l₅)) _ _ vb) vb2 hm₅ (fun W₆ st₆ x2 y2 l₆ R₆ vx2 hm₆=>?_) (hE.tr (l04.trans l₅))
  refine wpAny_holding ?_
  exact ht2 cx A W₆ st₆ QM EM Q E x2 y2 hA R₆ vx2 hm₆ (hQ.tr (l04.trans (l₅.trans l₆))) (hE.tr (l04.trans (l₅.trans l₆)))
theorem aj9.assert {t:Expr}{msg:Option Expr}{pos:Pos}{mt:M Bool} (ht:ajf S g d t mt):aj9 S g d (.Assert t msg pos) (bnd mt fun b=>aqg (b=true) (ret .next)):=by
 refine ⟨fun cx A W st QM EM Q E hg hA R hm hQ hE=>?_⟩
 refine wpAny_Assert_holds (az7.then ht hg hA R hm (fun W₁ st₁ c c' l₁ R₁ e hm₁=>?_) hE)
 subst e
 exact ⟨hm₁.1,hQ _ _ _ _ l₁ R₁ frN hm₁.2⟩
noncomputable def Cx.comp (cx:Cx) (env:Env) (nm:List Str) (loc:List MV):Cx:={ cx with env:=env,nm:=nm,outer:=⟨cx.env,cx.nm,loc⟩::cx.outer }
theorem Rel.enterComp {cx:Cx}{W:Wd}{st:MSt} (R:Rel S cx W st) {env':Env}{nm:List Str}{locs:List MV}{h₁:Heap}{tk:Nat}{m:Str→Option Value} (hE:bxa env') (hf:env'.frame=cx.env.frame) (hn:W.s.heap.get? env'.locals=none)
  (hL:h₁.Ns env'.locals m) (hk:∀ b o,W.s.heap.get? b=some o→h₁.get? b=some o) (hnd:nm.Nodup)
  (hcap:∀ (j:Nat) (mv:MV),locs[j]? = some mv→mv≠.unb→∃ y v,nm[j]? = some y∧VR S.w.params S.C W mv v∧(env'.kindOf y=some .cell∨env'.kindOf y=some .free)∧∃ c o,env'.cells.lookup y=some c∧¬ W.D c∧W.s.heap.get? c=some o∧o.data = .cell (some v)) :
  Le W ⟨{ W.s with heap:=h₁,toks:=tk },W.rho,fun b=>W.D b∨b=env'.locals⟩∧Rel S (cx.comp env' nm st.loc) ⟨{ W.s with heap:=h₁,toks:=tk },W.rho,fun b=>W.D b∨b=env'.locals⟩ ⟨locs,st.objs⟩:=by
 have ltL:∀ {b o},W.s.heap.get? b=some o→b≠env'.locals:=fun e z=>by rw [z,hn] at e;cases e
 have l:Le W ⟨{ W.s with heap:=h₁,toks:=tk },W.rho,fun b=>W.D b∨b=env'.locals⟩:=⟨fun b o e hd=>⟨hk b o e,fun q=>q.elim hd (ltL e)⟩,List.prefix_refl _⟩
 refine ⟨l,R.enter (s':={ W.s with heap:=h₁,toks:=tk }) hE hn hk R.gens rfl hnd ⟨.inr rfl,m,hL,fun k mv hkk hu=>?_⟩ (fun a z=>.inr z) (R.stk.of_keeps fun b o e _=>⟨o,hk b o e,rfl⟩) ?_ R.topOK⟩
 ·refine aZo (hcap k mv hkk hu) fun y v q1 q2 q3 r8_=>?_;revert r8_;refine aJD fun c o q4 q5 q6 q7=>?_
  exact ⟨y,v,q1,VR.mono l _ _ q2,.inr ⟨q3,c,o,q4,fun z=>z.elim q5 (ltL q6),hk _ _ q6,q7⟩⟩
 ·refine azS R.top fun e0 r L q1 q2 q3=>?_
  exact ⟨e0,r,L,q1,q2,hf.trans q3⟩
theorem Rel.leaveComp {cx:Cx}{W W'':Wd}{st st'':MSt}{env':Env}{nm:List Str} (R:Rel S cx W st) (R'':Rel S (cx.comp env' nm st.loc) W'' st'') (l:Le W W'') (hn:W.s.heap.get? env'.locals=none) (ho:st''.objs=st.objs) {h':Heap}{tk:Nat}{m':Str→Option Value}
  (hsb:Heap.SameBut env'.locals W''.s.heap h') (hL:h'.Ns env'.locals m') :
  Le W ⟨{ W''.s with heap:=h',toks:=tk },W''.rho,W''.D⟩∧Rel S cx ⟨{ W''.s with heap:=h',toks:=tk },W''.rho,W''.D⟩ st:=by
 have CD:W''.D env'.locals:=R''.cur.1
 have keep:∀ a o,a≠env'.locals→W''.s.heap.get? a=some o→h'.get? a=some o:=fun a o hne e=>(hsb.2 a hne).trans e
 have l2:Le W'' ⟨{ W''.s with heap:=h',toks:=tk },W''.rho,W''.D⟩:=⟨fun a o e hd=>⟨keep a o (fun z=>hd (z ▸ CD)) e,hd⟩,List.prefix_refl _⟩
 have hout:∀ r∈(⟨cx.env,cx.nm,st.loc⟩::cx.outer:List bjl),r.env.locals≠env'.locals:=fun r hr=>R''.apart r hr
 have ltL:∀ {b o},W.s.heap.get? b=some o→b≠env'.locals:=fun e z=>by rw [z,hn] at e;cases e
 have hfr:env'.locals∉cx.stk.filterMap (·.frame):=fun z=>by
  refine ak1 (R.stk.mem z) fun _ o e _=>?_
  exact ltL e rfl
 have hrho:W''.rho=W.rho:=by
  obtain ⟨t,ht⟩:=l.rho
  have h1:=R''.len
  have h2:=R.len
  rw [ho] at h1
  have:t.length=0:=by
   have:=congrArg List.length ht
   rw [List.length_append] at this
   walk_at "O"
  rw [List.length_eq_zero_iff.mp this] at ht
  rw [← ht];simp
 have hrC:∀ a∈W''.rho,a≠env'.locals:=fun a ha=>by
  rw [hrho] at ha
  obtain ⟨o,e⟩:=R.rin a ha
  exact ltL e
 refine ⟨l.trans l2,{ stat:=R.stat,envok:=R.envok,stays:=fun b o e=>keep b o (fun z=>R''.fresh b o e (z ▸ CD)) (R''.stays b o e),fresh:=R''.fresh,dlt:=?_,cur:=?_,outs:=?_,apart:=R.apart,nmnd:=R.nmnd,len:=by rw [← ho];exact R''.len,rin:=?_,live:=?_,inj:=by rw [← ho];exact R''.inj,stk:=?_,stkD:=R''.stkD,top:=R.top,topOK:=R.topOK,gens:=R''.gens,os:=R''.os,pins:=?_ }⟩
 ·intro a ha
  by_cases z:a=env'.locals
  ·subst z
   revert hL;refine aQA fun o _ _ e _=>?_
   exact ⟨o,e⟩
  ·obtain ⟨o,e⟩:=R''.dlt a ha
   exact ⟨o,keep a o z e⟩
 ·have h:=R''.outs ⟨cx.env,cx.nm,st.loc⟩ (.head _)
  exact h.step l2 h.1 fun m hm=>hm.at' fun o e=>keep _ o (hout _ (.head _)) e
 ·intro r hr
  have h:=R''.outs r (.tail _ hr)
  exact h.step l2 h.1 fun m hm=>hm.at' fun o e=>keep _ o (hout _ (.tail _ hr)) e
 ·intro a ha
  obtain ⟨o,e⟩:=R''.rin a ha
  exact ⟨o,keep a o (hrC a ha) e⟩
 ·intro i mo h1 h2
  rw [← ho] at h1
  obtain ⟨a,q1,q2,q3,q4,q5,q6⟩:=R''.live i mo h1 h2
  exact ⟨a,q1,q2,q3.step l2 fun o e=>keep a o q4 e,q5 ⟨cx.env,cx.nm,st.loc⟩ (.head _),fun r hr=>q5 r (.tail _ hr),q6⟩
 ·exact Rel.repin.funFrames_frames R''.stk fun b hb o e=>keep b o (fun z=>hfr (z ▸ hb)) e
 ·intro p hp
  refine akh (R''.pins p hp) fun q1 q2 q3 q4 q5 q6=>?_
  refine bke (R.pins p hp) fun _ y2 _=>?_
  exact ⟨q1,keep _ _ (ltL y2) q2,q3,q5 ⟨cx.env,cx.nm,st.loc⟩ (.head _),fun r hr=>q5 r (.tail _ hr),q6⟩
end
end Mine
end
section
namespace Mine
open PySem PySem.W PyProof.Rows PySem.Calls
section
variable {S:ajA}{g:Sig}{d:Nat}
theorem bz1 {B h:Heap}{as:List Addr}:∀ {l:List Env},h.FunFrames B l→h.FunFrames (hideAll B as) l
 | [],_=>trivial
 | env::_,⟨hk,⟨L,o,hf,hn,ho,hd⟩,hr⟩=>⟨hk,⟨L,o,hf,none_ hn,ho,hd⟩,bz1 hr⟩
where
 none_ {B:Heap}{as:List Addr}{L:Addr} (hn:B.get? L=none):(hideAll B as).get? L=none:=by
  cases q:(hideAll B as).get? L with
  | none=>rfl
  | some o=>have:=of_hideAll _ q;rw [hn] at this;cases this
theorem bj8 {cx:Cx}{A:Around}{W W'':Wd}{st st'':MSt}{env' env2:Env}{nm:List Str}{e:Addr}{cls:Value}{s3:Shared}{what:String}{α : Type}{Q : α→Shared→Prop}{E:Value→Shared→Prop}
  (R:Rel S cx W st) (R'':Rel S (cx.comp env' nm st.loc) W'' st'') (l:Le W W'') (hn:W.s.heap.get? env'.locals=none) (ho:st''.objs=st.objs) (hf2:env2.frame=cx.env.frame)
  (F:Fly (cx.comp env' nm st.loc) W'' e cls s3) (hnn:∀ a0 vs ob,s3.heap.get? e=some ob→ob.data = .fields vs→vs[1]? = some a0→a0≠Value.none) (hfr:env'.frame=cx.env.frame)
  {h':Heap}{m':Str→Option Value} (hsb:Heap.SameBut env'.locals s3.heap h') (hL:h'.Ns env'.locals m')
  (hE:∀ W3 s4,Le W W3→Rel S cx W3 st→Fly cx W3 e cls s4→E (.ref e) s4) :
  wpAny (model S.prog S.w) A (PySem.passOn what (.ref e) env2) Q E { s3 with heap:=h' }:=by
 have ltL:∀ {b o},W.s.heap.get? b=some o→b≠env'.locals:=fun e z=>by rw [z,hn] at e;cases e
 cases F with
 | fresh ob a0 vs keeps new he hc hd h0 h1 hg ho'=>exact absurd rfl (hnn _ _ _ he hd h1)
 | traced B a0 fl J hB hJ up stays new ff tr hfl hg ho'=>
  refine azS (id hL) fun oC esC epC gC dC rC=>?_
  refine ak1 R''.cur fun _ mC q1_ _=>?_;obtain ⟨o0,es0,ep0,g0,d0,_⟩:=q1_
  have CD:W''.D env'.locals:=R''.cur.1
  obtain ⟨sl3,g3⟩:=up _ _ g0 (fun vs q=>by rw [d0] at q;cases q)
  have hnf:oC.isFreed=false:=by
   obtain ⟨c1,c2,c3,c4⟩:=oC
   dsimp only at dC
   subst dC;rfl
  have gW:(W''.s.heap.update env'.locals fun _=>oC).get? env'.locals=some oC:=Heap.get?_update_self (fun _=>oC) g0 hnf
  obtain ⟨l3,R3⟩:=R.leaveComp R'' l hn ho (tk:=W''.s.toks) (Heap.SameBut.update W''.s.heap env'.locals fun _=>oC) ⟨oC,esC,epC,gW,dC,rC⟩
  refine azS R.top fun e0 r L hst hf0 hfL=>?_
  revert tr;refine az3 fun oe vs T oT ts r8_=>?_;revert r8_;refine akT fun z1 z2 z3 z4 z5 r8_=>?_;revert r8_;refine aZd fun z6 z7 z8 z9=>?_
  have eC:e≠env'.locals:=fun z=>by
   rw [z] at z1
   have:=Option.some.inj (g3.symm.trans z1)
   rw [← this] at z3
   dsimp only at z3
   rw [d0] at z3;cases z3
  have TC:T≠env'.locals:=fun z=>by
   rw [z] at z7
   have:=Option.some.inj (g3.symm.trans z7)
   rw [← this] at z8
   dsimp only at z8
   rw [d0] at z8;cases z8
  have keep:∀ b o,b≠env'.locals→s3.heap.get? b=some o→h'.get? b=some o:=fun b o hb q=>(hsb.2 b hb).trans q
  have none':∀ b,B.get? b=none→(hideAll B [env'.locals]).get? b=none:=fun b q=>by
   cases y:(hideAll B [env'.locals]).get? b with
   | none=>rfl
   | some o=>have:=of_hideAll _ y;rw [q] at this;cases this
  have CF:env'.locals∉cx.stk.filterMap (·.frame):=fun z=>by
   refine ak1 (R.stk.mem z) fun _ o y _=>?_
   exact ltL y rfl
  have tr':h'.TracedAtW (hideAll B [env'.locals]) e cls a0 fl:=⟨oe,vs,T,oT,ts,keep _ _ eC z1,z2,z3,z4,none' _ z5,z6,keep _ _ TC z7,z8,z9⟩
  have ff':h'.FunFrames (hideAll B [env'.locals]) cx.stk:=bz1 (Rel.repin.funFrames_frames ff fun b hb o q=>keep b o (fun z=>CF (z ▸ hb)) q)
  have stays':(hideAll B [env'.locals]).StaysIn h':=fun b o q=>keep b o (fun z=>by rw [z,hideAll_none _ (List.mem_singleton.mpr rfl)] at q;cases q) (stays b o (of_hideAll _ q))
  have up':Heap.UpToSlots (W''.s.heap.update env'.locals fun _=>oC) h':=fun b o q hq=>by
   by_cases hb:b=env'.locals
   ·subst hb
    rw [gW] at q;cases q
    exact ⟨oC.slots,gC⟩
   ·rw [Heap.get?_update_other _ _ (Ne.symm hb)] at q
    obtain ⟨sl,y⟩:=up b o q hq
    exact ⟨sl,keep _ _ hb y⟩
  refine wpAny_bind (wpAny_field (keep _ _ eC z1) z3 z4 ?_)
  rw [if_neg (show ¬ ((Value.ref T == Value.none)=true) from by simp)]
  rw [hf2,hfL]
  have fin:wpAny (model S.prog S.w) A (setFlight (.ref e) (some L)) (fun _ s''=>E (.ref e) s'') E { s3 with heap:=h' }:=
   aqd stays' (none' _ new) ff' tr' fun h2 k1 k2 k3 k4=>hE _ _ l3 R3 (.traced (hideAll B [env'.locals]) a0 (rawInt L) (fun a=>J a∨a=env'.locals) (fun a o q1 q2 q3=>?_) (fun a q=>?_) (up'.trans k4) k1 (none' _ new) k2 k3 (.inr ⟨L,hfL,rfl⟩) hg ho')
  ·first
    | exact wpAny_bind (wpAny_mono fin (fun _ _ x=>wpAny_throw x) fun _ _ x=>x)
    | exact wpAny_bind (wpAny_pure (wpAny_bind (wpAny_mono fin (fun _ _ x=>wpAny_throw x) fun _ _ x=>x)))
  ·have hne:a≠env'.locals:=fun z=>q3 (.inr z)
   have q1':W''.s.heap.get? a=some o:=by
    have:(W''.s.heap.update env'.locals fun _=>oC).get? a=some o:=q1
    rwa [Heap.get?_update_other _ _ (Ne.symm hne)] at this
   exact hideAll_get _ (hB a o q1' q2 fun z=>q3 (.inl z)) (fun z=>hne (List.mem_singleton.mp z))
  ·rcases q with q | rfl
   ·refine akh (hJ a q) fun y1 y2 y3 y4 y5 r8_=>?_;revert r8_;refine azC fun o y6 y7=>?_
    refine ⟨y1,y2,y3,y5 ⟨cx.env,cx.nm,st.loc⟩ (.head _),fun r hr=>y5 r (.tail _ hr),o,?_,y7⟩
    show (W''.s.heap.update env'.locals fun _=>oC).get? a=some o
    rw [Heap.get?_update_other _ _ (show env'.locals≠a from Ne.symm y4)];exact y6
   ·refine ⟨fun z=>?_,CD,fun z=>?_,(R''.apart ⟨cx.env,cx.nm,st.loc⟩ (.head _)).symm,fun r hr=>(R''.apart r (.tail _ hr)).symm,oC,gW,fun vs q=>by rw [dC] at q;cases q⟩
    ·refine ajl (List.mem_map.mp z) fun p hp y=>?_
     exact ltL (R.pins p hp).2.1 y
    ·have:W''.rho=W.rho:=by
      obtain ⟨t,ht⟩:=l.rho
      have h1:=R''.len
      have h2:=R.len
      rw [ho] at h1
      have:t.length=0:=by
       have:=congrArg List.length ht
       rw [List.length_append] at this
       walk_at "O"
      rw [List.length_eq_zero_iff.mp this] at ht
      rw [← ht];simp
     have z':env'.locals∈W.rho:=this ▸ z
     obtain ⟨o,y⟩:=R.rin _ z'
     exact ltL y rfl
end
end Mine
end
section
set_option genSizeOf false
set_option genInjectivity false
namespace Mine
open PySem PySem.W PyProof.Rows PySem.Calls
theorem bJh {M:Model}{A:Around}{E:Value→Shared→Prop}{s:Shared}{env:Env}{e:Expr}{scope:Scope}{pos:Pos}{newAcc first:Sem Value}{gg:Comprehension}{gs:List Comprehension}{cl:List (Str×Addr)}
  {Q:Value→Shared→Prop}
  (hcl:clausesOf e=gg::gs) (hs:∀ x,foldedSetIterable gg.iter env x=pure x) (hclos:closureFor scope env=pure cl)
  (hkind:scope.kind = .function) (hnames:∀ x∈scope.names,x.2 = .local→scope.names.lookup x.1=some .local)
  (h:wpAny M A first (fun x s₁=>wpAny M A (pyIter x) (fun it s₂=>wpAny M A newAcc (fun acc s₃=>
   wpAny M A (newFunctionEnv scope env.globals cl [] env.qual none .none (some env)) (fun cenv s₄=>
    codeAny M A (.compStart e 0 it acc { cenv with scope:=relabel scope env }) (fun r s'=>∃ m,s'.heap.Ns cenv.locals m∧∀ h' m',h'.Ns cenv.locals m'→Heap.SameBut cenv.locals s'.heap h'→
     match r with | .ok _=>Q acc { s' with heap:=h' } | .error x=>wpAny M A (PySem.passOn "comprehension.variables-let-go" x { cenv with scope:=relabel scope env }) Q E { s' with heap:=h' }) s₄) E s₃) E s₂) E s₁) E s) :
  wpAny M A (comprehension e scope env pos newAcc false first) Q E s:=by
 unfold comprehension
 rw [hclos,hcl]
 refine wpAny_bind (wpAny_mono h (fun x s₁ h₁=>wpAny_bind (wpAny_standAt (wpAny_bind (wpAny_of_eq (hs x) (wpAny_bind (wpAny_holding (wpAny_mono h₁ (fun it s₂ h₂=>
  wpAny_standIf (wpAny_bind (wpAny_mono h₂ (fun acc s₃ h₃=>wpAny_bind (wpAny_pure (wpAny_bind (wpAny_mono h₃ (fun cenv s₄ h₄=>?_) fun _ _ h'=>h')))) fun _ _ h'=>h')))
   fun _ _ h'=>h'))))))) fun _ _ h'=>h')
 dsimp only
 have hv:∀ x∈(scope.names.filter fun x=>(x.2 == .local || x.2 == .cell) && x.1 != (".0" : Str)).reverse,x.2 = .local→
   Env.kindOf { cenv with scope:=relabel scope env } x.1=some .local:=fun x hx hl=>lookup_relabel_local (hnames x (List.mem_filter.mp (List.mem_reverse.mp hx)).1 hl)
 refine wpAny_holding (wpAny_bind (wpAny_attempt (wpAny_holding (wpAny_run (codeAny_mono h₄ fun r s' hr=>?_)))))
 revert hr;refine azC fun m hn hr=>?_
 cases r with
 | ok f=>exact wpAny_bind (wpAny_holding (wpAny_comp_letGo (cenv:={ cenv with scope:=relabel scope env }) hkind _ s' m hv hn fun h' m' hn' hs'=>wpAny_pure (hr h' m' hn' hs')))
 | error x=>exact wpAny_bind (wpAny_holding (wpAny_comp_letGo (cenv:={ cenv with scope:=relabel scope env }) hkind _ s' m hv hn fun h' m' hn' hs'=>hr h' m' hn' hs'))
section
variable {S:ajA}{g g':Sig}{d:Nat}
noncomputable def axP:List MV→M Bool→M MV→M (List MV)
 | [],_,_=>ret []
 | x::xs,mt,me=>bnd (ajD 0 x) fun _=>bnd mt fun t=>cond t (bnd me fun y=>bnd (axP xs mt me) fun ys=>ret (y::ys)) (axP xs mt me)
noncomputable def bqM {α : Type} (loc:List MV→List MV) (m:M α):M α:=fun st Q E=>
 m ⟨loc st.loc,st.objs⟩ (fun a st'=>st'.objs=st.objs∧Q a st) (fun c st'=>st'.objs=st.objs∧E c st)
structure bXh (g g':Sig) (scope:Scope) (caps:List (Nat×Str)):Prop where
 kind:scope.kind = .function
 names:∀ x∈scope.names,x.2 = .local→scope.names.lookup x.1=some .local
 nocell:∀ x∈scope.names,x.2≠.cell
 sc:∀ env:Env,env.scope=g.sc→relabel scope env=g'.sc
 at_:∀ c∈caps,g.nm[c.1]? = some c.2∧g.sc.names.lookup c.2=some .cell∧g'.sc.names.lookup c.2=some .cell
 nm:∃ x,g'.nm=x::caps.map (·.2)
 nd:g'.nm.Nodup
 code:g'.code=none
 clos:∀ (env:Env),(∀ c∈caps,∃ a,env.cells.lookup c.2=some a)→∃ cl,closureFor scope env=pure cl∧∀ c∈caps,cl.lookup c.2=env.cells.lookup c.2
noncomputable def aQZ (caps:List (Nat×Str)) (loc:List MV):List MV:=.unb::caps.map fun c=>loc.getD c.1 .unb
inductive aXQ (S:ajA) (g':Sig) (d:Nat):List Expr→M Bool→Prop where
 | nil:aXQ S g' d [] (ret true)
 | one {c:Expr}{m:M Bool} (h:ajf S g' d c m):aXQ S g' d [c] m
theorem aXQ.run {ifs:List Expr}{mt:M Bool} (h:aXQ S g' d ifs mt):az7 S g' d (fun _ a b=>a=b) (fun env=>forIn ifs true fun c r=>if r=true then do let ok ← isTrue c env (eval c env);pure (ForInStep.yield ok) else pure (ForInStep.yield r)) mt:=by
 cases h with
 | nil=>exact ⟨fun cx A W st QM EM Q E hg hA R hm hQ hE=>wpAny_tests_nil (hQ W st _ _ (Le.refl W) R rfl hm)⟩
 | one h=>exact ⟨fun cx A W st QM EM Q E hg hA R hm hQ hE=>wpAny_tests_one (h.run cx A W st QM EM Q E hg hA R hm hQ hE)⟩
noncomputable def ax7 (caps:List (Nat×Str)) (mi:M (List MV)) (mt:M Bool) (me:M MV):M MV:=fun st Q E=>
 (∀ c∈caps,st.loc.getD c.1 .unb≠.unb)∧mi st (fun xs st₂=>st₂.loc=st.loc∧xs.length≤2000∧bqM (aQZ caps) (axP xs mt me) st₂ (fun ys st'=>Q (.list ys) st') E) E
theorem Fly.ns {cx:Cx}{W:Wd}{e:Addr}{cls:Value}{s:Shared}{L:Addr}{m:Str→Option Value} (F:Fly cx W e cls s) (h:W.s.heap.Ns L m):s.heap.Ns L m:=by
 cases F with
 | fresh ob a0 vs keeps new he hc hd h0 h1 hg ho=>exact h.keeps keeps
 | traced B a0 fl J hB hJ up stays new ff tr hfl hg ho=>exact up.ns h
@[reducible] noncomputable def bzD (M:Model) (A:Around) (CC:Addr) (v:Value) (env:Env) (Q:Value→Shared→Prop) (E:Value→Shared→Prop) (r:Result) (s':Shared):Prop:=
 ∃ m,s'.heap.Ns CC m∧∀ h' m',h'.Ns CC m'→Heap.SameBut CC s'.heap h'→
  match r with | .ok _=>Q v { s' with heap:=h' } | .error x=>wpAny M A (PySem.passOn "comprehension.variables-let-go" x env) Q E { s' with heap:=h' }
noncomputable def CQ (st₂:MSt) (QM:MV→MSt→Prop) (mvs:List MV):List MV→MSt→Prop:=fun zs st''=>st''.objs=st₂.objs∧QM (.list (mvs++zs)) st₂
noncomputable def CE (st₂:MSt) (EM:Value→MSt→Prop):Value→MSt→Prop:=fun c st''=>st''.objs=st₂.objs∧EM c st₂
inductive bXg (S:ajA) (cx:Cx) (W₄:Wd) (D:Addr) (bs:List Addr) (St:Nat→Heap→Prop) (xs:List MV) (mt:M Bool) (me:M MV) (st₂:MSt) (QM:MV→MSt→Prop) (EM:Value→MSt→Prop):Nat→Shared→Prop where
 | mk (i:Nat) (W':Wd) (st':MSt) (ps':List (Addr×Obj)) (ys:List Value) (mvs:List MV) (oD:Obj) (hle:i≤xs.length) (l':Le W₄ W') (R':Rel S (cx.pin ((D,oD)::ps')) W' st')
  (hps':ps'.map (·.1)=bs) (hst:St i W'.s.heap) (hlD:W'.s.heap.IsList D ys.toArray) (hv:VRs S.w.params S.C W' mvs ys) (hmi:mvs.length≤i) (hm':axP (xs.drop i) mt me st' (CQ st₂ QM mvs) (CE st₂ EM)):bXg S cx W₄ D bs St xs mt me st₂ QM EM (xs.length - i) W'.s
theorem aj5.listComp {elt iter:Expr}{x:Str}{px pos:Pos}{ifs:List Expr}{scope:Scope}{caps:List (Nat×Str)}{mi:M (List MV)}{mt:M Bool}{me:M MV} (C:bXh g g' scope caps) (hx0:g'.nm[0]? = some x) (hxl:g'.sc.names.lookup x=some .local)
  (hi:ak9 S g d iter mi) (ht:aXQ S g' d ifs mt) (he:aj5 S g' d elt me) (hns:bqg iter=true) :
  aj5 S g d (.ListComp elt [⟨.Name x px,iter,ifs,0⟩] scope pos) (ax7 caps mi mt me):=by
 refine ⟨fun cx A W st QM EM Q E hg hA R hm hQ hE=>?_⟩
 rw [eval_ListComp]
 obtain ⟨hcapv,hm⟩:=hm
 have capAt:∀ {W':Wd}{st':MSt},Rel S cx W' st'→st'.loc=st.loc→∀ c∈caps,∃ v a o,VR S.w.params S.C W' (st.loc.getD c.1 .unb) v∧cx.env.cells.lookup c.2=some a∧¬ W'.D a∧W'.s.heap.get? a=some o∧o.data = .cell (some v):=fun {W' st'} R' hl c hc=>by
  have hu:=hcapv c hc
  refine bke (C.at_ c hc) fun q1 q2 _=>?_
  have hsome:st'.loc[c.1]? = some (st.loc.getD c.1 .unb):=by
   rw [hl]
   rw [List.getD_eq_getElem?_getD] at hu ⊢
   cases h:st.loc[c.1]? with
   | none=>rw [h] at hu;exact absurd rfl hu
   | some v=>rfl
  refine ajl (R'.cur.get hsome hu (by rw [hg.2.1];exact q1)) fun v hv hcs=>?_
  have hkk:cx.env.kindOf c.2=some .cell:=by unfold Env.kindOf;rw [hg.1];exact q2
  rcases hcs with ⟨_,_,z,_⟩ | ⟨_,a,o,z1,z2,z3,z4⟩
  ·rw [hkk] at z;cases z
  ·exact ⟨v,a,o,hv,z1,z2,z3,z4⟩
 obtain ⟨cl,hclos,hcl⟩:=C.clos cx.env (fun c hc=>by refine azS (capAt R rfl c hc) fun _ a _ _ z _=>?_;exact ⟨a,z⟩)
 refine bJh (cl:=cl) rfl (fun x=>aq8 hns) hclos C.kind C.names ?_
 show wpAny _ A (eval iter cx.env) _ E W.s
 refine hi cx A W st _ EM _ E hg hA R hm (fun W₂ st₂ xs I ps fp P St l₂ R₂ F hm₂=>?_) hE
 revert hm₂; refine bzF fun hloc hsz hm₂=>?_
 have hW:=F.walks A hA.handled
 generalize hD:W₂.s.heap.objs.size=D
 have hDn:W₂.s.heap.get? D=none:=by subst hD;exact ajt _
 refine wpAny_newObj_type (wpAny_newFunctionEnv C.nocell (by intro y hy;simp at hy) (fun h₁ hns₁ hsb₁=>?_) C.kind)
 dsimp only at hns₁ hsb₁ ⊢
 rw [hD]
 generalize hH2:W₂.s.heap.push { cls:=.type "list",dict:=none,data:=.seq ([]:List Value).toArray }=H2 at hns₁ hsb₁ ⊢
 have hk2:∀ b o,W₂.s.heap.get? b=some o→H2.get? b=some o:=fun b o e=>by rw [← hH2];exact Heap.get?_push_of_some _ e
 have hD2:H2.get? D=some { cls:=.type "list",dict:=none,data:=.seq ([]:List Value).toArray }:=by rw [← hH2,← hD];exact Heap.get?_push_size _ rfl
 generalize hCd:H2.objs.size=CC at hns₁ hsb₁ ⊢
 have hCn2:H2.get? CC=none:=by rw [← hCd];exact ajt _
 have hCn:W₂.s.heap.get? CC=none:=by
  cases q:W₂.s.heap.get? CC with
  | none=>rfl
  | some o=>have:=hk2 _ _ q;rw [hCn2] at this;cases this
 have hDC:D≠CC:=fun z=>by rw [z,hCn2] at hD2;cases hD2
 have hk1:∀ b o,H2.get? b=some o→h₁.get? b=some o:=fun b o e=>hsb₁.extBut b o (fun z=>by rw [z,hCn2] at e;cases e) (Heap.get?_push_of_some _ e)
 obtain ⟨l₃,R₃⟩:=R₂.pinNew (s':={ W₂.s with heap:=H2 }) hk2 R₂.gens rfl (ps:=[(D,({ cls:=.type "list",dict:=none,data:=.seq ([]:List Value).toArray }:Obj))]) (fun p hp=>by rw [List.mem_singleton.mp hp];exact ⟨hDn,hD2⟩)
 generalize hW3:(⟨{ W₂.s with heap:=H2 },W₂.rho,fun b=>W₂.D b∨b∈[(D,({ cls:=.type "list",dict:=none,data:=.seq ([]:List Value).toArray }:Obj))].map (·.1)⟩:Wd)=W₃ at l₃ R₃
 have e3:W₃.s={ W₂.s with heap:=H2 }:=by rw [← hW3]
 have hks:(compEnvC scope cl CC cx.env).scope=g'.sc:=C.sc _ hg.1
 have hEnv:bxa (compEnvC scope cl CC cx.env):=⟨C.kind,R.envok.glob,R.envok.blt⟩
 obtain ⟨l₄,R₄⟩:=R₃.enterComp (env':=compEnvC scope cl CC cx.env) (nm:=g'.nm) (locs:=aQZ caps st₂.loc) (h₁:=h₁) (tk:=W₂.s.toks) hEnv rfl (by rw [e3];exact hCn2) hns₁ (fun b o e=>hk1 b o (by rw [e3] at e;exact e)) C.nd (fun j mv hj hu=>by
  cases j with
  | zero=>exact absurd (Option.some.inj hj).symm hu
  | succ j=>
   unfold aQZ at hj
   rw [List.getElem?_cons_succ,List.getElem?_map] at hj
   cases hc:caps[j]? with
   | none=>rw [hc] at hj;cases hj
   | some c=>
    rw [hc] at hj
    obtain rfl:=Option.some.inj hj
    have hmem:=List.mem_of_getElem? hc
    refine azS (capAt R₃.unpin.unpin hloc c hmem) fun v a o z1 z2 r8_=>?_;revert r8_;refine bzF fun z3 z4 z5=>?_
    obtain ⟨x',hx'⟩:=C.nm
    refine ⟨c.2,v,?_,?_,.inl ?_,a,o,?_,z3,z4,z5⟩
    ·rw [hx',List.getElem?_cons_succ,List.getElem?_map,hc];rfl
    ·rw [hloc];exact z1
    ·show (compEnvC scope cl CC cx.env).scope.names.lookup c.2=_
     rw [hks];exact (C.at_ c hmem).2.2
    ·show cl.lookup c.2=_
     rw [hcl c hmem];exact z2)
 generalize hW4:(⟨{ W₃.s with heap:=h₁,toks:=W₂.s.toks },W₃.rho,fun b=>W₃.D b∨b=(compEnvC scope cl CC cx.env).locals⟩:Wd)=W₄ at l₄ R₄
 have e4:W₄.s={ W₂.s with heap:=h₁ }:=by rw [← hW4,e3]
 have DD4:W₄.D D:=by
  rw [← hW4];left;rw [← hW3];exact .inr (List.mem_singleton.mpr rfl)
 have hapI:∀ p∈cx.pins,p.1∉ps.map (·.1):=F.ap
 have hapD:∀ p∈cx.pins,p.1≠D:=fun p hp z=>by
  refine bke (R₂.unpin.pins p hp) fun _ y _=>?_
  rw [z,hDn] at y;cases y
 have psOld:∀ b∈ps.map (·.1),∃ o,W₂.s.heap.get? b=some o:=fun b hb=>F.ex 0 _ F.st b hb
 have hDps:D∉ps.map (·.1):=fun z=>by obtain ⟨o,y⟩:=psOld D z;rw [hDn] at y;cases y
 have hCps:CC∉ps.map (·.1):=fun z=>by obtain ⟨o,y⟩:=psOld CC z;rw [hCn] at y;cases y
 have hDfp:D∉fp:=fun z=>by obtain ⟨o,y⟩:=(F.ro D z hDps).2;rw [hDn] at y;cases y
 have hCfp:CC∉fp:=fun z=>by obtain ⟨o,y⟩:=(F.ro CC z hCps).2;rw [hCn] at y;cases y
 have hst4:St 0 W₄.s.heap:=by
  rw [e4]
  exact hW.frame 0 _ _ F.st fun b hb o e=>hk1 b o (hk2 b o e)
 have l24:Le W₂ W₄:=l₃.trans l₄
 have keepSt:∀ {i:Nat}{Wa Wb:Wd}{psa:List (Addr×Obj)}{stb:MSt}{cxb:Cx},Le W₂ Wa→Le Wa Wb→St i Wa.s.heap→psa.map (·.1)=ps.map (·.1)→(∀ p∈psa,Wa.s.heap.get? p.1=some p.2)→(∀ p∈psa,p∈cxb.pins)→Rel S cxb Wb stb→St i Wb.s.heap:=fun {i Wa Wb psa stb cxb} la lb hst q1 q2 q3 Rb=>by
  refine hW.frame _ _ _ hst fun b hb o e=>?_
  by_cases hbp:b∈ps.map (·.1)
  ·rw [← q1] at hbp
   refine ajl (List.mem_map.mp hbp) fun p hp e2_=>?_;subst e2_
   have e2:=q2 p hp
   rw [e] at e2;cases e2
   exact (Rb.pins p (q3 p hp)).2.1
  ·refine bKS (F.ro b hb hbp) fun z1 o' z2=>?_
   obtain ⟨y1,y2⟩:=la.keep b o' z2 z1
   have:o=o':=Option.some.inj (e.symm.trans y1)
   subst this
   exact (lb.keep b o y1 y2).1
 have hg':∀ qs:List (Addr×Obj),g'.fits (((cx.comp (compEnvC scope cl CC cx.env) g'.nm st₂.loc)).pin qs):=fun qs=>⟨hks,rfl,fun c h=>by rw [C.code] at h;cases h⟩
 have hA':∀ qs:List (Addr×Obj),AOK (((cx.comp (compEnvC scope cl CC cx.env) g'.nm st₂.loc)).pin qs) d A:=fun qs=>⟨hA.frames,hA.depth,hA.units,hA.handled⟩
 have esc:∀ {qs:List (Addr×Obj)} (W5:Wd) (st5:MSt) (e:Addr) (c:Value) (s5:Shared),Le W₂ W5→Rel S (((cx.comp (compEnvC scope cl CC cx.env) g'.nm st₂.loc)).pin qs) W5 st5→Fly (((cx.comp (compEnvC scope cl CC cx.env) g'.nm st₂.loc)).pin qs) W5 e c s5→(st5.objs=st₂.objs∧EM c st₂)→
   notedBy (model S.prog S.w) A (compEnvC scope cl CC cx.env) (fun e s'=>bzD (model S.prog S.w) A CC (.ref D) (compEnvC scope cl CC cx.env) Q E (.error e) s') (.ref e) s5:=fun {qs} W5 st5 e c s5 l5 R5 F5 hm5=>by
  refine bqe (hA' qs) R5 F5 fun s6 F6 hnn=>?_
  refine ak1 R5.cur fun _ mC hC _=>?_
  refine ⟨mC,F6.ns hC,fun h' m' hL' hsb'=>?_⟩
  exact bj8 R₂.unpin R5.unpin l5 hCn hm5.1 rfl F6.unpin hnn rfl hsb' hL' fun W3 s4 l3 R3 F3=>hE W3 _ e c s4 (l₂.trans l3) R3 F3 hm5.2
 have loop:codeAny (model S.prog S.w) A (.compLoop (.ListComp elt [⟨.Name x px,iter,ifs,0⟩] scope pos) 0 (.ref I) (.ref D) (compEnvC scope cl CC cx.env))
   (bzD (model S.prog S.w) A CC (.ref D) (compEnvC scope cl CC cx.env) Q E) W₄.s:=by
  refine codeAny_compLoop_tests (bXg S (cx.comp (compEnvC scope cl CC cx.env) g'.nm st₂.loc) W₄ D (ps.map (·.1)) St xs mt me st₂ QM EM) ?_ xs.length
   (.mk 0 W₄ ⟨aQZ caps st₂.loc,st₂.objs⟩ ps [] [] _ (Nat.zero_le _) (Le.refl _) R₄ rfl hst4 ⟨_,by rw [e4];exact hk1 _ _ hD2,rfl,0,rfl⟩ (by rfl) (Nat.le_refl _) ?_)
  ·intro k s' hinv
   obtain ⟨i,W',st',ps',ys,mvs,oD,hle,l',R',hps',hst,hlD,hv,hmi,hm'⟩:=hinv
   have hDps':D∉ps'.map (·.1):=by rw [hps'];exact hDps
   have hap':∀ (qs:List (Addr×Obj)) (oo:Obj),qs.map (·.1)=ps.map (·.1)→∀ p∈cx.pins,p.1∉((D,oo)::qs).map (·.1):=fun qs oo hq p hp z=>by
    rcases List.mem_cons.mp z with z | z
    ·exact hapD p hp z
    ·exact hapI p hp (hq ▸ z)
   have gD:W'.s.heap.get? D=some oD:=(R'.pins (D,oD) (List.mem_append_left _ (.head _))).2.1
   rcases Nat.lt_or_ge i xs.length with hi' | hi'
   ·refine hW.item i W'.s _ _ hi' hst fun v h' tk hP hst' hkeep=>?_
    refine hide fun G hG=>?_
    refine ajl (aZe (F.ex (i + 1) h' hst')) fun ps'' q1 q2=>?_
    obtain ⟨l'',R''⟩:=R'.repin (s':={ W'.s with heap:=h',toks:=tk }) (ps':=(D,oD)::ps'') (fun b o hb e=>hkeep b o (fun z=>hb (.tail _ (hps' ▸ z))) e) R'.gens rfl
     (by rw [List.map_cons,List.map_cons,q1,hps']) (fun p hp=>by
      rcases List.mem_cons.mp hp with rfl | hp
      ·exact hkeep _ _ hDps gD
      ·exact q2 p hp) (hap' _ _ hps')
    refine hG ?_
    clear hG G
    have hx:xs[i]? = some xs[i]:=List.getElem?_eq_getElem hi'
    rw [List.drop_eq_getElem_cons hi'] at hm'
    have vx:VR S.w.params S.C { W' with s:={ W'.s with heap:=h',toks:=tk } } xs[i] v:=VR.mono (l24.trans (l'.trans l'')) _ _ (F.items i v _ hP hx)
    have lbase:=l24.trans (l'.trans l'')
    refine aJ4.name (p:=px) 0 hx0 hxl _ A _ st' (fun _ st1=>bnd mt (fun t=>cond t (bnd me fun y=>bnd (axP (xs.drop (i + 1)) mt me) fun ys=>ret (y::ys)) (axP (xs.drop (i + 1)) mt me)) st1 (CQ st₂ QM mvs) (CE st₂ EM)) (CE st₂ EM) _ _ xs[i] v (hg' _) (hA' _) R'' vx hm' (fun W5 st5 l5 R5 hm5=>?_) fun W5 st5 e c s5 l5 R5 F5 hm5=>esc W5 st5 e c s5 (lbase.trans l5) R5 F5 hm5
    refine az7.then ht.run (hg' _) (hA' _) R5 hm5 (fun W6 st6 t t' l6 R6 e6 hm6=>?_) fun W6 st6 e c s5 l6 R6 F6 hm6=>esc W6 st6 e c s5 (lbase.trans (l5.trans l6)) R6 F6 hm6
    subst e6
    have q2':∀ p∈ps'',h'.get? p.1=some p.2:=q2
    cases t with
    | false=>
     rw [if_neg (by simp)]
     have st6':=keepSt (Wa:={ W' with s:={ W'.s with heap:=h',toks:=tk } }) lbase (l5.trans l6) hst' q1 q2' (fun p hp=>List.mem_append_left _ (.tail _ hp)) R6
     refine ⟨xs.length - (i + 1),by walk_at "O",.mk (i + 1) W6 st6 ps'' ys mvs oD hi' (l'.trans (l''.trans (l5.trans l6))) R6 q1 st6' ?_ (VRs.mono (l''.trans (l5.trans l6)) _ _ hv) (Nat.le_succ_of_le hmi) hm6⟩
     revert hlD;refine azC fun o g1 g2=>?_
     rw [gD] at g1;cases g1
     exact ⟨_,(R6.pins (D,oD) (List.mem_append_left _ (.head _))).2.1,g2⟩
    | true=>
     rw [if_pos rfl]
     refine he.then (hg' _) (hA' _) R6 hm6 (fun W7 st7 y vy l7 R7 hy hm7=>?_) fun W6 st6 e c s5 l6' R6 F6 hm6=>esc W6 st6 e c s5 (lbase.trans (l5.trans (l6.trans l6'))) R6 F6 hm6
     have l57:=l5.trans (l6.trans l7)
     have st7':=keepSt (Wa:={ W' with s:={ W'.s with heap:=h',toks:=tk } }) lbase l57 hst' q1 q2' (fun p hp=>List.mem_append_left _ (.tail _ hp)) R7
     have hl7:W7.s.heap.IsList D ys.toArray:=by
      revert hlD;refine azC fun o g1 g2=>?_
      rw [gD] at g1;cases g1
      exact ⟨_,(R7.pins (D,oD) (List.mem_append_left _ (.head _))).2.1,g2⟩
     have hysz:ys.toArray.size≤sizeLine:=by
      rw [List.size_toArray,VRs.length hv,sizeLine_eq];walk_at "O"
     refine wpAny_list_append (hsz:=hysz) hl7 fun h8 hl8 hs8=>?_
     refine ajl (id hl8) fun oD8 g8 g9=>?_
     obtain ⟨l8,R8⟩:=R7.repin (s':={ W7.s with heap:=h8 }) (ps':=(D,oD8)::ps'') (fun b o hb e=>(hs8.2 b (fun z=>hb (by rw [z];exact .head _))).trans e) R7.gens rfl rfl (fun p hp=>by
      rcases List.mem_cons.mp hp with rfl | hp
      ·exact g8
      ·refine (hs8.2 p.1 (fun z=>?_)).trans (R7.pins p (List.mem_append_left _ (.tail _ hp))).2.1
       exact hDps (by rw [← q1,← z];exact List.mem_map_of_mem hp)) (hap' _ _ q1)
     refine ⟨xs.length - (i + 1),by walk_at "O",.mk (i + 1) _ st7 ps'' (ys++[vy]) (mvs++[y]) oD8 hi' (l'.trans (l''.trans (l57.trans l8))) R8 q1 ?_ ?_ ?_ ?_ ?_⟩
     ·exact hW.frame _ _ _ st7' fun b hb o e=>(hs8.2 b (fun z=>hDfp (z ▸ hb))).trans e
     ·simpa using hl8
     ·exact VRs.app (VRs.mono (l''.trans (l57.trans l8)) _ _ hv) (by exact ⟨_,_,rfl,VR.mono l8 _ _ hy,rfl⟩)
     ·rw [List.length_append];exact Nat.succ_le_succ hmi
     ·have z:CQ st₂ QM (mvs++[y])=fun zs=>CQ st₂ QM mvs (y::zs):=by funext zs st;unfold CQ;rw [List.append_assoc];rfl
      rw [z];exact hm7
   ·obtain rfl:i=xs.length:=Nat.le_antisymm hle hi'
    refine hW.done W'.s _ _ hst fun h' tk hkeep=>?_
    rw [List.drop_length] at hm'
    obtain ⟨ho5,hm5⟩:=hm'
    rw [List.append_nil] at hm5
    obtain ⟨l'',R''⟩:=R'.drop (s':={ W'.s with heap:=h',toks:=tk }) (fun b o hb e=>hkeep b o (fun z=>hb (.tail _ (hps' ▸ z))) e) R'.gens rfl (hap' _ _ hps')
    refine ak1 R''.cur fun _ mC hC _=>?_
    refine ⟨mC,hC,fun h9 m9 hL9 hsb9=>?_⟩
    obtain ⟨l9,R9⟩:=R₂.unpin.leaveComp R'' (l24.trans (l'.trans l'')) hCn ho5 (tk:=tk) hsb9 hL9
    refine hQ _ _ _ _ (l₂.trans l9) R9 ?_ hm5
    have lend:Le W' ⟨{ W'.s with heap:=h9,toks:=tk },W'.rho,fun b=>W'.D b∧b∉((D,oD)::ps').map (·.1)⟩:=⟨fun b o e hd=>?_,List.prefix_refl _⟩
    ·refine aZX ⟨D,ys,fun z=>z.2 (.head _),?_,VRs.mono lend _ _ hv⟩
     revert hlD;refine azC fun o g1 g2=>?_
     exact ⟨o,(hsb9.2 D hDC).trans (hkeep _ _ hDps g1),g2⟩
    ·have hbp:b∉ps.map (·.1):=fun z=>by
      rw [← hps'] at z
      refine ajl (List.mem_map.mp z) fun p hp e3_=>?_;subst e3_
      exact hd (R'.pins p (List.mem_append_left _ (.tail _ hp))).1
     exact ⟨(hsb9.2 b (fun z=>hd (z ▸ R'.cur.1))).trans (hkeep b o hbp e),fun z=>hd z.1⟩
  ·exact hm₂
 exact codeAny_compStart_list (by rw [e4] at loop;exact loop) (hW.self 0 _ _ _ (by rw [e4] at hst4;exact hst4) (by rw [e4] at loop;exact loop))
end
end Mine
end
section
namespace Mine
open PySem PySem.W PyProof.Rows PySem.Calls
section
variable {prog:Program}{w:World}{A:Around}{E:Value→Shared→Prop}{s:Shared}
noncomputable def avM (sep:List UInt8):List (List UInt8)→List UInt8
 | []=>[]
 | b::r=>sep++(b++avM sep r)
noncomputable def akJ (sep:List UInt8):List (List UInt8)→List UInt8
 | []=>[]
 | b::r=>b++avM sep r
theorem aJO (sep:List UInt8):∀ (ps:List (List UInt8)) (k:Nat) (out:Array UInt8),0 < k→
  ((ps.map List.toArray).zipIdx k).foldl (fun out (x:Array UInt8×Nat)=>(if x.2 > 0 then out++sep.toArray else out)++x.1) out=out++(avM sep ps).toArray
 | [],k,out,_=>by simp [avM]
 | p::ps,k,out,hk=>by
  rw [List.map_cons,List.zipIdx_cons,List.foldl_cons,aJO sep ps (k + 1) _ (by walk_at "O")]
  have:k > 0:=hk
  simp only [this,if_true]
  apply Array.ext'
  simp [avM,List.append_assoc]
theorem aKs (sep:List UInt8) (ps:List (List UInt8)):Builtin.Bytes.joined sep.toArray (ps.map List.toArray)=(akJ sep ps).toArray:=by
 cases ps with
 | nil=>rfl
 | cons p ps=>
  unfold Builtin.Bytes.joined
  rw [List.map_cons,List.zipIdx_cons,List.foldl_cons]
  have:=aJO sep ps 1 (#[]++p.toArray) (by walk_at "O")
  simp only [Nat.lt_irrefl,gt_iff_lt,if_false]
  rw [this]
  apply Array.ext'
  simp [akJ]
theorem bv5 {id:String}{b:Array UInt8}{t:Tok}:Builtin.Bytes.takeBufferQuiet? id (.bytes b t) 0=pure (some (b,none)):=by
 have h1:Builtin.Bytes.takeBuffer? id (.bytes b t) 0=pure (some (b,none)):=by
  unfold Builtin.Bytes.takeBuffer?
  rw [KBy.special_eq KBy.look_buffer,KBy.own_buffer,show ((0:Int) == Builtin.Bytes.fullReadOnly)=false from by decide +kernel,KBy.buffer_eq]
  kernel_rfl
 unfold Builtin.Bytes.takeBufferQuiet?
 rw [h1]
 rfl
theorem aJN:∀ (bs:List (Value×Option Value)) (keep:List Value) {A:Around}{E:Value→Shared→Prop}{s:Shared}{Q:Unit→Shared→Prop},(∀ p∈bs,p.2=none)→Q () s→wpAny (model prog w) A (Builtin.Bytes.joinLetGo bs keep) Q E s
 | [],keep,A,E,s,Q,_,h=>wpAny_pure h
 | (x,none)::r,keep,A,E,s,Q,hn,h=>by
  unfold Builtin.Bytes.joinLetGo
  dsimp only
  refine wpAny_bind (wpAny_letGo (aJN r keep (fun p hp=>hn p (.tail _ hp)) h))
 | (x,some y)::r,keep,A,E,s,Q,hn,h=>by
  have:=hn _ (.head _)
  cases this
noncomputable def aqf (sep:List UInt8) (bs:List (List UInt8)):Nat:=(bs.map List.length).sum + sep.length * bs.length
theorem aVp:∀ (ps:List (Array UInt8)) (k:Nat),ps.foldl (fun a p=>a + p.size) k=k + (ps.map Array.size).sum
 | [],k=>by simp
 | p::ps,k=>by rw [List.foldl_cons,aVp ps];simp;walk_at "O"
theorem aKN (sep:List UInt8):∀ ps:List (List UInt8),(avM sep ps).length=(ps.map List.length).sum + sep.length * ps.length
 | []=>by simp [avM]
 | p::ps=>by rw [avM,List.length_append,List.length_append,aKN sep ps];simp [Nat.mul_add];walk_at "O"
theorem aKO (sep:List UInt8) (ps:List (List UInt8)):(akJ sep ps).length≤aqf sep ps:=by
 cases ps with
 | nil=>simp [akJ]
 | cons p ps=>simp [akJ,aKN,aqf,Nat.mul_add];walk_at "O"
theorem ajb.mid {b:List UInt8}{post:List (List UInt8)}:∀ {pre:List (List UInt8)}{vs:List Value},ajb vs (pre++b::post)→∃ t,vs[pre.length]? = some (.bytes b.toArray t)
 | pre,[],h=>by cases pre<;>cases h
 | [],v::vs,h=>by
  refine av2 h fun b' r t h1 h2=>?_
  cases h1;rw [h2.1];exact ⟨t,rfl⟩
 | p::pre,v::vs,h=>by
  refine av2 h fun b' r t h1 h2=>?_
  cases h1;exact ajb.mid (pre:=pre) h2.2
theorem ajb.at_ {vs:List Value}{bs:List (List UInt8)}{i:Nat} (h:ajb vs bs) (hi:i < bs.length):∃ t,vs[i]? = some (.bytes (bs.getD i []).toArray t):=by
 have e:bs.take i++bs.getD i []::bs.drop (i + 1)=bs:=by
  rw [List.getD_eq_getElem?_getD,List.getElem?_eq_getElem hi,Option.getD_some,← List.drop_eq_getElem_cons hi,List.take_append_drop]
 have z:=ajb.mid (b:=bs.getD i []) (post:=bs.drop (i + 1)) (pre:=bs.take i) (vs:=vs) (by rw [e];exact h)
 rwa [List.length_take,Nat.min_eq_left (Nat.le_of_lt hi)] at z
theorem ajb.len:∀ {vs:List Value}{bs:List (List UInt8)},ajb vs bs→vs.length=bs.length:=fun {vs bs} h=>by rw [← h.map,List.length_map]
theorem bqD {L:Addr}{o:Obj}{xs:Array Value}{n:Nat}{R:Option (Array Value)→Shared→Prop} (ho:s.heap.get? L=some o) (hd:o.data = .seq xs n) (hR:R (some xs) s):wpAny (model prog w) A (seqItems? (.ref L)) R E s:=by
 show wpAny _ _ (load L>>=_) _ _ _
 refine wpAny_bind (wpAny_load ho ?_)
 rw [hd]
 exact wpAny_pure hR
theorem aZ3 {α : Type}{M:Model}{c:Prop} [Decidable c] {a b:Sem α}{Q : α→Shared→Prop} (h:¬ c) (k:wpAny M A b Q E s):wpAny M A (if c then a else b) Q E s:=by rw [if_neg h];exact k
theorem bQ9 {x:Value}{b:Array UInt8}{t:Tok}{id:String} (h:x = .bytes b t):Builtin.Bytes.takeBufferQuiet? id x 0=pure (some (b,none)):=by rw [h];exact bv5
theorem bx7 {taken:List (Value×Option Value)} (ht:∀ p∈taken,p.2=none∧∃ b t,p.1=Value.bytes b t):¬ (false || taken.any fun x=>x.fst.onHeap)=true:=by
 rw [Bool.false_or,List.any_eq_true]
 rintro ⟨p,hp,h⟩
 refine azD ((ht p hp).2) fun b t2 e=>?_
 rw [e] at h;cases h
theorem bkB {sep:List UInt8}{bs:List (List UInt8)} (hsz:aqf sep bs≤16777216):Builtin.Bytes.tooLong (Array.foldl (fun x1 x2=>x1 + x2.size) (sep.toArray.size * ((bs.map List.toArray).toArray.size - 1)) (bs.map List.toArray).toArray)=false:=by
 refine KBy.tooLong_not ?_
 rw [← Array.foldl_toList,aVp]
 have e1:(List.map Array.size (List.map List.toArray bs).toArray.toList).sum=(bs.map List.length).sum:=by
  simp [List.map_map,Function.comp_def]
 rw [e1,List.size_toArray,List.size_toArray,List.length_map]
 have:sep.length * (bs.length - 1)≤sep.length * bs.length:=Nat.mul_le_mul_left _ (Nat.sub_le _ _)
 unfold aqf at hsz
 walk_at "O"
theorem bqB (sep:List UInt8) (t:Tok) (it:Value):∃ rest:Value→Array Value→Sem Fin,Builtin.«bytes.join» ⟨[.bytes sep.toArray t,it],[]⟩=(do
  let seq ← Builtin.Bytes.joinItems it
  let some items ← seqItems? seq | unsupported "internal:bytes.join"
  if let #[x]:=items then
   if (← typeOf x) == .type "bytes" then (do rule "bytes.join.one-item"; PySem.ret x) else rest seq items
  else rest seq items)∧∀ {A:Around}{E:Value→Shared→Prop}{Q:Value→Shared→Prop}{s:Shared}{L:Addr}{o:Obj}{xs:Array Value}{n:Nat}{bs:List (List UInt8)},s.heap.get? L=some o→o.data = .seq xs n→ajb xs.toList bs→
   aqf sep bs≤16777216→(∀ t tk,Q (.bytes (akJ sep bs).toArray t) { s with toks:=tk })→wpAny (model prog w) A (rest (.ref L) xs) (fun fin s'=>∃ v,fin=Fin.done (Flow.ret v)∧Q v s') E s:=by
 refine ⟨_,rfl,fun {A E Q s₁ L o xs n bs} ho hd hb hsz hq=>wpAny_bind ?_⟩
 have hlen:xs.size=bs.length:=by rw [← hb.len,Array.length_toList]
 rw [Std.Legacy.Range.forIn_eq_forIn_range']
 have hsz2:([:xs.size]:Std.Legacy.Range).size=bs.length:=by simp [Std.Legacy.Range.size,hlen]
 show wpAny _ _ (forIn (List.range' 0 ([:xs.size]:Std.Legacy.Range).size 1) _ _) _ _ _
 rw [hsz2]
 refine wpAny_forIn_list _ (fun l st s'=>s'=s₁∧∃ pre post,bs=pre++post∧l=List.range' pre.length post.length 1∧st.1=(pre.map List.toArray).toArray∧∀ p∈st.2,p.2=none∧∃ b t,p.1=Value.bytes b t) _ ?_ ?_ _ _ ⟨rfl,[],bs,rfl,rfl,rfl,fun p hp=>nomatch hp⟩
 ·rintro x rest ⟨parts,taken⟩ s' ⟨rfl,pre,post,hbs,hl,hp,ht⟩
  cases post with
  | nil=>cases hl
  | cons b post=>
   obtain ⟨rfl,rfl⟩:=List.cons.inj hl
   refine azD (show ∃ t':Tok,∃ _:True,xs.getD pre.length Value.none = .bytes b.toArray t' from ?_) fun t' _ hx=>?_
   ·rw [hbs] at hb
    obtain ⟨t',hx⟩:=hb.mid
    rw [Array.getElem?_toList] at hx
    exact ⟨t',trivial,by rw [Array.getD_eq_getD_getElem?,hx];rfl⟩
   refine wpAny_bind (bqD ho hd (aZ3 (bx7 ht) (wpAny_bind (wpAny_holding (wpAny_of_eq (bQ9 hx) (wpAny_bind (bqD ho hd (aZ3 (c:=(xs.size != xs.size)=true) (by rw [bne_self_eq_false];exact Bool.false_ne_true) (wpAny_pure (show _∧_ from ⟨rfl,pre++[b],post,?_,?_,?_,?_⟩))))))))))
   ·rw [hbs,List.append_assoc];rfl
   ·rw [List.length_append];rfl
   ·rw [List.map_append,show parts=_ from hp];exact List.push_toArray ..
   ·intro p hp'
    rcases List.mem_append.mp hp' with h | h
    ·exact ht p h
    ·rw [List.mem_singleton.mp h];exact ⟨rfl,_,_,hx⟩
 ·rintro ⟨parts,taken⟩ s' ⟨rfl,pre,post,hbs,hl,hp,ht⟩
  cases post with
  | cons b post=>cases hl
  | nil=>
   rw [List.append_nil] at hbs
   subst hbs
   obtain rfl:parts=_:=hp
   refine wpAny_bind (wpAny_of_eq (a:=sep.toArray) rfl (aZ3 (by rw [bkB hsz];exact Bool.false_ne_true) (wpAny_bind (wpAny_mkBytes (wpAny_bind (wpAny_holding (wpAny_point (wpAny_bind (aJN _ _ (fun p hp'=>(ht p hp').1) (wpAny_pure ⟨_,rfl,?_⟩)))))) ?_))))
   ·have:=hq
    rw [← aKs] at this
    exact this _ _
   ·rw [show (bs.map List.toArray).toArray.toList=bs.map List.toArray from rfl,aKs,List.size_toArray,sizeLine_eq];have:=aKO sep bs;walk_at "O"
theorem bzh {sep:List UInt8}{t:Tok}{it:Value}{Q:Value→Shared→Prop}
  (hj:wpAny (model prog w) A.in1 (Builtin.Bytes.joinItems it) (fun v s₁=>∃ L o xs n bs,v = .ref L∧s₁.heap.get? L=some o∧o.data = .seq xs n∧ajb xs.toList bs∧aqf sep bs≤16777216∧
   ∀ t tk,Q (.bytes (akJ sep bs).toArray t) { s₁ with toks:=tk }) E s) :
  wpAny (model prog w) A (call (.builtin "bytes.join") [.bytes sep.toArray t,it]) Q E s:=by
 refine ajl (bqB (prog:=prog) (w:=w) sep t it) fun rest e loop=>?_
 refine wpAny_call_entry BF.slot_join (ajS s _ t) BF.entry_join ?_ (BF.args_join _ _)
 rw [e]
 refine wpAny_bind (wpAny_mono hj (fun v s₁ h=>?_) fun _ _ x=>x)
 revert h;refine bk5 fun L o xs n bs e6_ r0_=>?_;subst e6_;obtain ⟨ho,hd,hb,hsz,hq⟩:=r0_
 have loop:=loop (A:=A.in1) (E:=E) ho hd hb hsz hq
 refine wpAny_bind (bqD ho hd ?_)
 rcases xs with ⟨_ | ⟨x,_ | ⟨y,r⟩⟩⟩
 ·exact loop
 ·revert hb;refine akS fun b r t' h1 h2 h3=>?_
  subst h1;subst h2
  obtain rfl:r=[]:=h3
  refine wpAny_bind (wpAny_pure (a:=Value.type "bytes") ?_)
  rw [if_pos (by decide)]
  refine wpAny_bind (wpAny_rule (wpAny_pure ⟨_,rfl,?_⟩))
  have:=hq t' s₁.toks
  rw [show akJ sep [b]=b by simp [akJ,avM]] at this
  exact this
 ·exact loop
end
end Mine
end
section
namespace Mine
open PySem PySem.W PyProof.Rows PySem.Calls
section
variable {S:ajA}{g:Sig}{d:Nat}
theorem Rel.grow {cx:Cx}{W:Wd}{st:MSt}{i:Nat}{P:Addr}{s':Shared}{ps:Array Value} (R:Rel S cx W st) (h1:st.objs[i]? = some .tab) (hr:W.rho[i]? = some P) (hk:∀ b o,b≠P→W.s.heap.get? b=some o→s'.heap.get? b=some o)
  (hi:s'.heap.IsCode S.tc P ps) (ht:s'.heap.TableAt S.tc P ps) (hg:AllBare s'.gens) (ho:s'.os=W.s.os) :
  Le W { W with s:=s' }∧Rel S cx { W with s:=s' } st:=by
 obtain ⟨a',q1,q2,q3,q4,q5,q6⟩:=R.live i .tab h1 (by intro h;cases h)
 obtain rfl:P=a':=Option.some.inj (hr.symm.trans q1)
 revert q3;refine aZc fun q3a ps0 q3b q3c=>?_
 have keep:∀ b o,W.s.heap.get? b=some o→¬ W.D b→s'.heap.get? b=some o:=fun b o e hd=>hk b o (fun q=>hd (q ▸ q2)) e
 have l:Le W { W with s:=s' }:=⟨fun b o e hd=>⟨keep b o e hd,hd⟩,List.prefix_refl _⟩
 have there:∀ b,(∃ o,W.s.heap.get? b=some o)→∃ o,s'.heap.get? b=some o:=fun b ⟨o,e⟩=>by
  by_cases q:b=P
  ·subst q;exact ⟨_,ht.2⟩
  ·exact ⟨o,hk b o q e⟩
 refine ⟨l,{ stat:=R.stat,envok:=R.envok,stays:=fun b o e=>keep b o (R.stays b o e) (R.fresh b o e),fresh:=R.fresh,dlt:=fun b hb=>there b (R.dlt b hb),cur:=R.cur.step l R.cur.1 fun m hm=>hm.at' fun o e=>hk _ o (Ne.symm q4) e,outs:=fun r hr=>(R.outs r hr).step l (R.outs r hr).1 fun m hm=>hm.at' fun o e=>hk _ o (fun e=>q5 r hr e.symm) e,apart:=R.apart,nmnd:=R.nmnd,len:=R.len,rin:=fun b hb=>there b (R.rin b hb),live:=?_,inj:=R.inj,stk:=?_,stkD:=R.stkD,top:=R.top,topOK:=R.topOK,gens:=hg,os:=ho.trans R.os,pins:=?_ }⟩
 ·intro j m e hn
  obtain ⟨b,z1,z2,z3,z4,z5,z6⟩:=R.live j m e hn
  by_cases hba:b=P
  ·subst hba
   obtain rfl:=R.inj j i b m .tab e hn h1 (by intro h;cases h) z1 hr
   rw [h1] at e;cases e
   exact ⟨b,z1,z2,⟨q3a,ps,hi,ht⟩,z4,z5,z6⟩
  ·exact ⟨b,z1,z2,z3.step l fun o e=>hk b o hba e,z4,z5,z6⟩
 ·refine aqm (fun b o e hnf'=>?_) R.stk
  by_cases q:b=P
  ·subst q
   rw [q3c.2] at e;cases e
   exact absurd rfl (hnf' _)
  ·exact ⟨o,hk b o q e,hnf'⟩
 ·intro p hp
  refine aQd (R.pins p hp) fun z1 z2 z3 z4=>?_
  exact ⟨z1,hk _ _ (fun q=>z3 (by rw [q];exact List.mem_of_getElem? hr)) z2,z3,z4⟩
theorem bJ1 {M:Model}{A:Around}{E:Value→Shared→Prop}{s:Shared}{env:Env}{c P:Addr}{ps:Array Value}{pos:Pos}{qualname:Str}{scope:Scope}{Q:Value→Shared→Prop} (hc:env.code = .ref c) (hok:s.heap.IsCode c P ps) (htab:s.heap.TableAt c P ps)
  (hQ:∀ code h' tk ps',Heap.ExtBut P s.heap h'→s.heap.objs.size≤h'.objs.size→h'.IsCode c P ps'→h'.TableAt c P ps'→Q code { s with heap:=h',toks:=tk }) :
  wpAny M A (genexprCode env pos qualname scope) Q E s:=by
 cases h:codeAmong pos ps.toList with
 | some c'=>
  refine wpAny_genexprCode_hit hc hok h ?_
  exact hQ c' s.heap s.toks ps (fun b o _ e=>e) (Nat.le_refl _) hok htab
 | none=>exact wpAny_genexprCodeX hc hok htab h fun c' h' tk h1 h2 h3 h4 h5 h6 h7=>hQ _ h' tk _ h1 (Nat.le_trans h2 (Nat.le_of_lt h3)) h4 h6
theorem aX8 (bs:List (List UInt8)) (pz:Nat→Bool) (hpz:∀ i,i < bs.length→pz i=decide (bs.getD i []≠[])) :
  (passing pz bs.length 0).map (fun i=>bs.getD i [])=bs.filter (fun b=>decide (b≠[])):=by
 unfold passing
 rw [List.drop_zero]
 have h1:(List.range bs.length).filter pz=(List.range bs.length).filter (fun i=>decide (bs.getD i []≠[])):=List.filter_congr fun i hi=>hpz i (List.mem_range.mp hi)
 rw [h1]
 have h2:bs=(List.range bs.length).map (fun i=>bs.getD i []):=by
  apply List.ext_getElem
  ·simp
  ·intro i h1 h2
   simp [List.getD_eq_getElem?_getD,h1]
 conv=>rhs;rw [h2]
 rw [List.filter_map]
 rfl
end
end Mine
end
section
namespace Mine
open PySem PySem.W PyProof.Rows PySem.Calls
theorem aZA {F:Nat→Value→Prop}{acc:Array Value}{l:List (List UInt8)} (h:ItemsOf F acc l.length) (hF:∀ j v,F j v→∃ t,v = .bytes (l.getD j []).toArray t):ajb acc.toList l:=by
 obtain ⟨h1,h2⟩:=h
 have:∀ (vs:List Value) (l:List (List UInt8)),vs.length=l.length→(∀ (j:Nat) (v:Value),vs[j]? = some v→∃ t,v = .bytes (l.getD j []).toArray t)→ajb vs l:=by
  intro vs
  induction vs with
  | nil=>intro l e _;exact List.length_eq_zero_iff.mp e.symm
  | cons v vs ih=>
   intro l e h
   cases l with
   | nil=>simp at e
   | cons b l=>
    obtain ⟨t,ht⟩:=h 0 v rfl
    exact ⟨b,l,t,rfl,ht,ih l (by simpa using e) fun j v hv=>h (j + 1) v hv⟩
 exact this acc.toList l (by rw [Array.length_toList];exact h1) fun j v hv=>hF j v (h2 j v (by rw [← Array.getElem?_toList];exact hv))
section
variable {S:ajA}{g:Sig}{d:Nat}
noncomputable def bkr (sep:List UInt8) (i:Nat) (v:MV):M MV:=fun st Q _=>st.objs[i]? = some .tab∧∃ bs:List (List UInt8),v = .list (bs.map MV.bytes)∧bs.length≤2000∧(∀ b∈bs,b.length≤1000)∧
 aqf sep (bs.filter fun b=>decide (b≠[]))≤16777216∧Q (.bytes (akJ sep (bs.filter fun b=>decide (b≠[])))) st
set_option maxHeartbeats 2000000 in
theorem aj5.joinGen {sep:List UInt8}{k:Nat}{cp apos gpos pos px p1 p2:Pos}{x:Str}{iter:Expr}{scope:Scope}{mi:M MV} (i:Nat)
  (hcode:g.code=some (.ref S.tc)) (hi:aj5 S g (d + 1) iter mi) (hgf:∀ env v,genFold iter env v=pure v) (hco:scope.isCoroutine=false) (hfree:∀ y∈scope.names,y.2≠.free) (hcell:∀ y∈scope.names,y.2≠.cell)
  (h0:scope.names.lookup (".0" : Str)=some .local) (hx:scope.names.lookup x=some .local) (hkind:scope.kind = .function) (hl:(apos.endLine == pos.line)=true) (hxd:(x == ("__debug__" : Str))=false) :
  aj5 S g (d + 1) (.Call (.Attribute (.Constant (.bytes sep) k cp) "join" apos) [.GeneratorExp (.Name x p1) [⟨.Name x px,iter,[.Name x p2],0⟩] scope gpos] [] pos) (bnd mi (bkr sep i)):=by
 refine ⟨fun cx A W st QM EM Q E hg hA R hm hQ hE=>?_⟩
 rw [arm_eval_Call,aqV rfl]
 obtain ⟨la,Ra⟩:=R.same (s':={ W.s with toks:=W.s.toks + 1 }) rfl rfl rfl
 refine wpAny_bind (Constant_bytes (wpAny_bind (wpAny_standAt ?_)))
 have hform:methodCallForm ([Expr.GeneratorExp (.Name x p1) [⟨.Name x px,iter,[.Name x p2],0⟩] scope gpos].length + ([]:List Keyword).length) (backTo pos (starEach [.GeneratorExp (.Name x p1) [⟨.Name x px,iter,[.Name x p2],0⟩] scope gpos] cx.env)) (backToKw pos (keywordEach [] cx.env))=true:=by
  unfold methodCallForm
  rw [aK8 rfl]
  have hk:backToKw pos (keywordEach [] cx.env)=[]:=rfl
  rw [hk]
  simp
 have hpos:methodCallPos true (.Constant (.bytes sep) k cp) cx.env apos pos=pure pos:=by unfold methodCallPos;simp [hl]
 unfold methodCall
 rw [hform]
 refine wpAny_bind (wpAny_holding ?_)
 show wpAny _ A (getMethod (.bytes sep.toArray W.s.toks) (Str.ofString "join") _) _ _ { W.s with toks:=W.s.toks + 1 }
 refine (ajH.bytes (d:=d + 1) BF.slot_join BF.type_join cx A { W with s:={ W.s with toks:=W.s.toks + 1 } } st (.bytes sep) _ _ _ _ True hA Ra azA trivial).2 ?_
 refine wpAny_bind (wpAny_of_eq hpos ?_)
 refine callWith_builtin (aqk rfl) (aq9 rfl (wpAny_items_cons ?_ rfl))
 have hh:=hA.handled
 have hdep:=hA.depth
 refine wpAny_GeneratorExp_walksQ hh hco (closureFor_none hfree) hcell h0 hx hkind (by walk_at "O") ?_ (hgf _)
 refine hi.then hg hA Ra hm (fun W₁ st₁ a u l₁ R₁ va hm₁=>?_) (hE.tr la)
 revert hm₁; refine aZc fun htab bs e1_ r2_=>?_;subst e1_;obtain ⟨hlen,hbl,hjs,hm₁⟩:=r2_
 obtain ⟨l,vs,hlD,hls,hvs⟩:=aJa va
 have hB:=ajb.of hvs
 have hvl:vs.length=bs.length:=hB.len
 obtain ⟨P,hrho,hPD,⟨htcD,ps,hIC,hTA⟩,_⟩:=R₁.live i .tab htab (by intro h;cases h)
 have hlP:l≠P:=fun z=>hlD (z ▸ hPD)
 have hlim:W₁.s.heap.NoLimit:=R₁.stat.nolimit.keeps R₁.stays
 refine wpAny_pyIter_list hls ?_
 generalize hI:W₁.s.heap.objs.size=I
 have hIn:W₁.s.heap.get? I=none:=by subst hI;exact ajt _
 have ltI:∀ {b o},W₁.s.heap.get? b=some o→b≠I:=fun e z=>by rw [z,hIn] at e;cases e
 generalize hH2:W₁.s.heap.push { cls:=.type "list_iterator",data:=.fields #[.ref l,.int 0 0] }=H2
 have k2:∀ b o,W₁.s.heap.get? b=some o→H2.get? b=some o:=fun b o e=>by rw [← hH2];exact Heap.get?_push_of_some _ e
 have hI2:H2.get? I=some { cls:=.type "list_iterator",data:=.fields #[.ref l,.int 0 0] }:=by rw [← hH2,← hI];exact Heap.get?_push_size _ rfl
 have hlo:∃ o,W₁.s.heap.get? l=some o:=let ⟨o,e,_⟩:=hls;⟨o,e⟩
 obtain ⟨olo,hlo⟩:=hlo
 refine ⟨hlim.keeps k2,?_⟩
 refine bJ1 (c:=S.tc) (P:=P) (ps:=ps) (hg.2.2 _ hcode) (hIC.keeps k2) (hTA.keeps k2) fun code h₃ tk₃ ps' hx₃ hsz₃ hIC₃ hTA₃=>?_
 have k3:∀ b o,b≠P→W₁.s.heap.get? b=some o→h₃.get? b=some o:=fun b o hb e=>hx₃ b o hb (k2 b o e)
 have kbase:∀ b o,cx.base.get? b=some o→h₃.get? b=some o:=fun b o e=>k3 b o (fun z=>R₁.fresh b o e (z ▸ hPD)) (R₁.stays b o e)
 refine aZo R₁.stat.bmain fun bm ob b1 b2 b3 r8_=>?_;revert r8_;refine bzF fun b4 b5 b6=>?_
 refine wpAny_builtinsFor (m:=S.mg) (by rw [R₁.envok.glob];exact R₁.stat.g.keeps kbase) b1 b2 (kbase _ _ b3) b4 b5 b6 ?_
 have hIP:I≠P:=fun z=>(ltI hTA.2) z.symm
 have hI3:h₃.get? I=some { cls:=.type "list_iterator",data:=.fields #[.ref l,.int 0 0] }:=hx₃ _ _ hIP hI2
 have hl3:h₃.IsList l vs.toArray:=by
  revert hls;refine azC fun o e r=>?_
  exact ⟨o,k3 _ _ hlP e,r⟩
 have hlI:l≠I:=ltI hlo
 have hcs:cStatics≠I:=by
  revert hlim;refine azC fun mc q3_ _=>?_;obtain ⟨o,_,_,e,_⟩:=q3_
  exact ltI e
 have hlim3:h₃.NoLimit:=by
  have:=R₁.stat.nolimit.keeps kbase
  exact this
 refine ⟨I,[I,l],[I],vs.toArray.size,(fun i v=>vs.toArray[i]? = some v),(fun i h=>h.IsListIter I l i∧h.IsList l vs.toArray),(fun i=>decide (bs.getD i []≠[])),(fun i v=>vs.toArray[i]? = some v),rfl,
  (fun A' hA'=>Walks.list hA' I l hlI vs.toArray),⟨⟨_,hI3,rfl,rfl⟩,hl3⟩,?_,hlim3,?_,?_,?_⟩
 ·intro b hb
  rcases List.mem_cons.mp hb with rfl | hb
  ·exact Heap.lt_size hI3
  ·rw [List.mem_singleton.mp hb]
   revert hl3;refine azC fun o e _=>?_
   exact Heap.lt_size e
 ·intro z;exact hcs (List.mem_singleton.mp z)
 ·intro href hhref
  have valAt:∀ {j:Nat}{v:Value},vs.toArray[j]? = some v→∃ t,v = .bytes (bs.getD j []).toArray t∧j < bs.length:=fun {j v} hv=>by
   have hj:j < bs.length:=by
    have:=(Array.getElem?_eq_some_iff.mp hv).1
    rw [List.size_toArray] at this
    walk_at "O"
   obtain ⟨t,ht⟩:=hB.at_ hj
   have hv':vs[j]? = some v:=by simpa using hv
   rw [ht] at hv'
   exact ⟨t,(Option.some.inj hv').symm,hj⟩
  have hkx:(genEnv scope [] h₃.objs.size code builtinsNs cx.env).kindOf x=some .local:=hx
  have hks:(genEnv scope [] h₃.objs.size code builtinsNs cx.env).scope.kind = .function:=hkind
  refine ⟨fun A' E' j v s₂ m₂ hA' hP hn hm' hk'=>?_,fun A' E' j v s₂ m₂ hA' hP hpz hn hm' hk'=>?_⟩
  ·refine ajl (valAt hP) fun t e4_ hj=>?_;subst e4_
   refine wpAny_tests_one (wpAny_isTrue_value (wpAny_Name (wpAny_loadName_local hks hkx hn hm' ?_) hxd) rfl)
   refine truthy_bytes ?_ ?_
   ·rw [List.size_toArray]
    have hmem:bs.getD j []∈bs:=by
     rw [List.getD_eq_getElem?_getD,List.getElem?_eq_getElem hj]
     exact List.getElem_mem hj
    have:=hbl _ hmem
    walk_at "O"
   ·refine ⟨?_,s₂.heap,_,rfl,fun _ _ e=>e⟩
    rw [List.size_toArray]
    cases h:bs.getD j [] with
    | nil=>simp
    | cons c r=>simp;walk_at "O"
  ·refine ajl (valAt hP) fun t e5_ hj=>?_;subst e5_
   refine wpAny_Name (wpAny_loadName_local hks hkx hn hm' ⟨hP,s₂.heap,s₂.toks,rfl,fun _ _ e=>e⟩) hxd
 ·intro a h₅ tk gs hgb hag hsz₅ hk₅ WW hat
  refine wpAny_items_nil ?_
  have hn0:vs.toArray.size=bs.length:=by rw [List.size_toArray];exact hvl
  rw [hn0] at WW hat
  have hpm:=aX8 bs (fun i=>decide (bs.getD i []≠[])) (fun _ _=>rfl)
  have hpl:(passing (fun i=>decide (bs.getD i []≠[])) bs.length 0).length=(bs.filter fun b=>decide (b≠[])).length:=by rw [← hpm,List.length_map]
  have hT:∀ i s,GenAt S.prog S.w A.in4 a W₁.s.gens.size h₃.objs.size (List.range h₃.objs.size) [I] (fun i=>decide (bs.getD i []≠[])) bs.length (fun i v=>vs.toArray[i]? = some v) i s→s.TypeIs (.ref a) "generator":=fun i s st=>st.1.typeIs
  refine bzh ?_
  refine wpAny_bind (wpAny_typeOf (hT 0 _ hat) ?_)
  rw [if_neg (by decide)]
  refine wpAny_bind (wpAny_tryCatch ((WalksS.of_in1 (A:=A.in1) (WalksS.of_in1 (A:=A.in1.in1) (WalksS.of_in1 (A:=A.in1.in1.in1) WW))).self 0 _ _ _ hat ?_))
  refine call_list_gen (A:=A.in1) (WalksS.of_in1 (A:=A.in1.in1.in1) WW) hT hat ?_ (List.mem_cons_self) (fun s' acc' c' hmv hS' hacc=>?_) ?_
  ·intro b hb
   show b < h₅.objs.size
   rw [hsz₅]
   rcases List.mem_cons.mp hb with rfl | hb
   ·exact Nat.lt_succ_self _
   ·rcases List.mem_cons.mp hb with rfl | hb
    ·exact Nat.lt_succ_of_lt hag
    ·exact Nat.lt_succ_of_lt (Nat.lt_trans (List.mem_range.mp hb) hag)
  ·have kk:Heap.ExtBut I h₃ s'.heap:=fun b o hb e=>by
    refine hmv.heap b o (fun z=>?_) (Heap.get?_push_of_some _ (hk₅ _ _ e))
    rcases List.mem_cons.mp z with z | z
    ·have:=Heap.lt_size (hk₅ _ _ e)
     rw [z] at this
     exact absurd this (Nat.lt_irrefl _)
    ·rcases List.mem_cons.mp z with z | z
     ·have:=Heap.lt_size e
      rw [z] at this
      exact absurd this (Nat.lt_irrefl _)
     ·exact hb (List.mem_singleton.mp z)
   have htI:S.tc≠I:=by
    obtain ⟨⟨o,_,e,_⟩,_⟩:=hTA
    exact ltI e
   refine ⟨_,_,acc',c',bs.filter fun b=>decide (b≠[]),rfl,hS',rfl,?_,hjs,fun t tk=>?_⟩
   ·refine aZA (by rw [← hpl];exact hacc) fun j v hj=>?_
    revert hj;refine azC fun q hq1 hq2=>?_
    have hqb:q < bs.length:=by
     have:=(Array.getElem?_eq_some_iff.mp hq2).1
     rw [List.size_toArray] at this
     walk_at "O"
    obtain ⟨t,ht⟩:=hB.at_ hqb
    have hv':vs[q]? = some v:=by simpa using hq2
    rw [ht] at hv'
    refine ⟨t,?_⟩
    have e1:((passing (fun i=>decide (bs.getD i []≠[])) bs.length 0).map (fun i=>bs.getD i []))[j]? = some (bs.getD q []):=by rw [List.getElem?_map,hq1];rfl
    rw [hpm] at e1
    rw [List.getD_eq_getElem?_getD,e1]
    exact (Option.some.inj hv').symm
   ·obtain ⟨l9,R9⟩:=R₁.grow (s':={ s' with toks:=tk }) (P:=P) (ps:=ps') htab hrho (fun b o hb e=>kk b o (ltI e) (k3 b o hb e)) (hIC₃.extBut kk htI (Ne.symm hIP)) (hTA₃.extBut kk htI (Ne.symm hIP)) ((AllBare.push R₁.gens hgb).moved hmv.gens) hmv.os
    exact hQ _ _ _ _ (la.trans (l₁.trans l9)) R9 azA hm₁
  ·rw [hpl,sizeLine_eq]
   have:=List.length_filter_le (fun b=>decide (b≠[])) bs
   walk_at "O"
end
end Mine
end
section
namespace Mine
open PySem PySem.W PyProof.Rows PySem.Calls
namespace BF
theorem slot_repr:Slot "bytes" "__repr__" "bytes.__repr__":=
 .of (owner:="bytes") (n:="__repr__") (by rw [typeLookup_type,builtinLookup_eq_fast];kernel_rfl) (by decide +kernel) (by decide +kernel) (by decide +kernel)
  (by first | exact .inl (by decide +kernel) | exact .inr (by decide +kernel)) (by rw [isSubtype_type];kernel_rfl)
theorem entry_repr:entryFor table "bytes.__repr__" = some Builtin.«bytes.__repr__»:=entryFor_of_tree (by kernel_rfl)
theorem args_repr (a:Value):argsOk "bytes.__repr__" ⟨[a],[]⟩:=by
 unfold argsOk;rw [signature?_of (id:="bytes.__repr__") (n:=['_','_','r','p','e','r','_','_']) (o:=['s','e','t','y','b']) (by kernel_rfl) FB.owner_bytes];kernel_rfl
end BF
theorem aXs (b:List UInt8):(Builtin.Bytes.literal b.toArray).length≤4 * b.length + 3:=by
 unfold Builtin.Bytes.literal
 dsimp only
 generalize (if (b.toArray.contains 39 && !b.toArray.contains 34)=true then 34 else 39:Nat)=quote
 have key:∀ (f:Array Nat→UInt8→Array Nat),(∀ acc c,(f acc c).size≤acc.size + 4)→∀ (l:List UInt8) (acc:Array Nat),(l.foldl f acc).size≤acc.size + 4 * l.length:=by
  intro f hf l
  induction l with
  | nil=>intro acc;simp
  | cons c l ih=>
   intro acc
   rw [List.foldl_cons]
   refine Nat.le_trans (ih _) ?_
   rw [List.length_cons]
   have:=hf acc c
   walk_at "O"
 show (Array.push _ quote).size≤_
 rw [Array.size_push,← Array.foldl_toList]
 have k:=fun f hf=>key f hf b #[98,quote]
 refine Nat.le_trans (Nat.add_le_add_right (k _ ?_) 1) ?_
 ·intro acc c
  rw [Array.size_append]
  refine Nat.add_le_add_left ?_ _
  repeat' split
  all_goals first | exact Nat.le_of_ble_eq_true rfl | simp
 ·simp;walk_at "O"
section
variable {prog:Program}{w:World}{A:Around}{E:Value→Shared→Prop}{s:Shared}
theorem aVN {b:List UInt8}{t:Tok}{Q:Value→Shared→Prop} (hl:b.length≤2000) (h:∀ x t' tk,x.length≤8003→Q (.str x t') { s with toks:=tk }) :
  wpAny (model prog w) A (pyReprObj (.bytes b.toArray t)) Q E s:=by
 refine wpAny_bind (wpAny_cRoomFor_byValue rfl ?_)
 refine wpAny_bind (wpAny_specialOf (ajS s _ t) BF.slot_repr.lookup ?_)
 rw [if_neg (by simp)]
 have hlen:=aXs b
 refine wpAny_bind (wpAny_callSpecialIfBound?_slot (ajS s _ t) BF.slot_repr (wpAny_call_entry BF.slot_repr (ajS s _ t) BF.entry_repr ?_ (BF.args_repr _)))
 unfold Builtin.«bytes.__repr__»
 show wpAny _ _ (Builtin.Bytes.literalAsked b.toArray>>=fun x=>retStr x) _ _ s
 have e:Builtin.Bytes.literalAsked b.toArray=pure (Builtin.Bytes.literal b.toArray):=by
  unfold Builtin.Bytes.literalAsked
  rw [KBy.tooLong_not (by rw [List.size_toArray];walk_at "O")]
  rfl
 refine wpAny_bind (wpAny_of_eq e ?_)
 refine wpAny_bind (wpAny_mkStr ?_ (by rw [sizeLine_eq];walk_at "O"))
 refine wpAny_pure ⟨_,rfl,?_⟩
 refine wpAny_bind (wpAny_isInstance (typeIs_str _ _ _) isSubtype_str_str ?_)
 exact wpAny_pure (h _ _ _ (by walk_at "O"))
end
section
variable {S:ajA}{g:Sig}{d:Nat}
noncomputable def bvD (a:MV):M MV:=azR a fun b st Q _=>b.length≤2000∧∀ x,Q (.str x) st
theorem aj5.fmt {e:Expr}{tail:Str}{k:Nat}{p p2 pos:Pos}{me:M MV} (he:aj5 S g d e me) (ht:tail.length≤1000):aj5 S g d (.JoinedStr [.FormattedValue e 114 none p,.Constant (.str tail) k p2] pos) (bnd me bvD):=by
 refine ⟨fun cx A W st QM EM Q E hg hA R hm hQ hE=>?_⟩
 refine JoinedStr_many (joinParts_cons ?_)
 show wpAny _ A (do let v ← eval e cx.env;standAt p;formatted p (← holding [v] (converted 114 v)) none) _ E W.s
 refine wpAny_bind (he.then hg hA R hm (fun W₁ st₁ a u l₁ R₁ va hm₁=>wpAny_bind (wpAny_standAt (wpAny_bind (wpAny_holding ?_)))) hE)
 refine ajl (aql hm₁) fun b e6_ r0_=>?_;subst e6_;obtain ⟨hl,h9⟩:=r0_
 clear hm₁
 obtain ⟨t,rfl⟩:=ajz va
 show wpAny _ A (pyReprObj (.bytes b.toArray t)) _ E W₁.s
 refine aVN hl fun x t' tk hx=>?_
 show wpAny _ A (formatField (.str x t') Str.empty) _ E _
 refine formatField_str (fun t2 tk2=>?_) (by rw [sizeLine_eq];walk_at "O")
 dsimp only
 have e0:(Str.empty++x).length≤8003:=by
  have:(Str.empty++x).length=Str.empty.length + x.length:=strLen_append ..
  have h0:Str.empty.length=0:=rfl
  walk_at "O"
 refine ⟨by rw [sizeLine_eq];walk_at "O",joinParts_cons (wpAny_Constant_str ?_)⟩
 dsimp only
 have e1:((Str.empty++x)++tail).length≤9003:=by
  have:((Str.empty++x)++tail).length=(Str.empty++x).length + tail.length:=strLen_append ..
  walk_at "O"
 refine ⟨by rw [sizeLine_eq];walk_at "O",joinParts_nil ?_ (by rw [sizeLine_eq];walk_at "O")⟩
 obtain ⟨l2,R2⟩:=R₁.same (s':={ W₁.s with toks:=tk2 + 1 + 1 }) rfl rfl rfl
 exact hQ _ _ _ _ (l₁.trans l2) R2 bZD (h9 _)
end
end Mine
end
section
namespace Mine
open PySem PySem.W PyProof.Rows PySem.Calls
theorem aVu {kd:Str→Option NameKind}:∀ {ks:List Str}{vs:List Value}{m0:Str→Option Value}{j:Nat}{x:Str}{v:Value},ks.Nodup→ks[j]? = some x→vs[j]? = some v→kd x=some .local→bindL kd (ks.zip vs) m0 x=some v
 | [],vs,m0,j,x,v,_,h1,_,_=>by simp at h1
 | k::ks,[],m0,j,x,v,_,_,h2,_=>by simp at h2
 | k::ks,u::vs,m0,0,x,v,hn,h1,h2,hk=>by
  cases h1;cases h2
  rw [List.zip_cons_cons]
  unfold bindL
  rw [if_pos hk]
  have:∀ (ks:List Str) (vs:List Value) (m1:Str→Option Value),k∉ks→bindL kd (ks.zip vs) m1 k=m1 k:=by
   intro ks
   induction ks with
   | nil=>intro vs m1 _;rfl
   | cons y ys ih=>
    intro vs m1 hy
    cases vs with
    | nil=>rfl
    | cons w ws=>
     rw [List.zip_cons_cons]
     unfold bindL
     rw [ih ws _ fun z=>hy (.tail _ z)]
     split
     ·show (if k=y then some w else m1 k)=m1 k
      rw [if_neg (fun (z:k=y)=>hy (by rw [z];exact .head _))]
     ·rfl
  rw [this ks vs _ (List.nodup_cons.mp hn).1]
  simp
 | k::ks,u::vs,m0,j + 1,x,v,hn,h1,h2,hk=>by
  rw [List.zip_cons_cons]
  exact aVu (List.nodup_cons.mp hn).2 h1 h2 hk
theorem aVv {kd:Str→Option NameKind}:∀ {ks:List Str}{vs:List Value}{m0:Str→Option Value}{j:Nat}{x:Str}{v:Value},ks.Nodup→ks[j]? = some x→vs[j]? = some v→kd x≠some .local→bindC kd (ks.zip vs) m0 x=some v
 | [],vs,m0,j,x,v,_,h1,_,_=>by simp at h1
 | k::ks,[],m0,j,x,v,_,_,h2,_=>by simp at h2
 | k::ks,u::vs,m0,0,x,v,hn,h1,h2,hk=>by
  cases h1;cases h2
  rw [List.zip_cons_cons]
  unfold bindC
  rw [if_neg hk]
  have:∀ (ks:List Str) (vs:List Value) (m1:Str→Option Value),k∉ks→bindC kd (ks.zip vs) m1 k=m1 k:=by
   intro ks
   induction ks with
   | nil=>intro vs m1 _;rfl
   | cons y ys ih=>
    intro vs m1 hy
    cases vs with
    | nil=>rfl
    | cons w ws=>
     rw [List.zip_cons_cons]
     unfold bindC
     rw [ih ws _ fun z=>hy (.tail _ z)]
     split
     ·rfl
     ·show (if k=y then some w else m1 k)=m1 k
      rw [if_neg (fun (z:k=y)=>hy (by rw [z];exact .head _))]
  rw [this ks vs _ (List.nodup_cons.mp hn).1]
  simp
 | k::ks,u::vs,m0,j + 1,x,v,hn,h1,h2,hk=>by
  rw [List.zip_cons_cons]
  exact aVv (List.nodup_cons.mp hn).2 h1 h2 hk
section
variable {S:ajA}{g:Sig}{d:Nat}
theorem aj5.cell {x:Str}{pos:Pos} (k:Nat) (hx:g.nm[k]? = some x) (hk:g.sc.names.lookup x=some .cell) (hd:(x == ("__debug__" : Str))=false) :
  aj5 S g d (.Name x pos) (getL k):=by
 refine ⟨fun cx A W st QM EM Q E hg hA R hm hQ hE=>?_⟩
 obtain ⟨hu,hm⟩:=bJF hm
 have hsome:st.loc[k]? = some (st.loc.getD k .unb):=by
  rw [List.getD_eq_getElem?_getD] at hu ⊢
  cases h:st.loc[k]? with
  | none=>rw [h] at hu;exact absurd rfl hu
  | some v=>rfl
 refine ajl (R.cur.get hsome hu (by rw [hg.2.1];exact hx)) fun v hv hc=>?_
 have hkk:cx.env.kindOf x=some .cell:=by unfold Env.kindOf;rw [hg.1];exact hk
 rcases hc with ⟨m,hns,hl,hmx⟩ | ⟨_,c,o,h1,h2,h3,h4⟩
 ·rw [hkk] at hl;cases hl
 ·exact wpAny_Name (wpAny_loadName_cell R.envok.kind hkk h1 ⟨o,h3,h4⟩ (hQ W st _ v (Le.refl W) R hv hm)) hd
theorem aj2.fnC {a:Addr}{fd:FuncData}{oc:Value}{od:Option Addr}{osl:Array (Option Value)}{body:List Stmt}{g':Sig}{mb:M MF}{n:Nat}
  (ho:S.K.lookup a=some ⟨oc,od,.func fd,osl⟩) (hcd:codeIn S.K fd.code fd.qualname=true) (hbody:fd.body = .stmts body)
  (hsc:fd.scope=g'.sc) (hk:fd.scope.kind = .function) (hco:fd.scope.isCoroutine=false) (hgen:fd.scope.isGenerator=false)
  (hcl:fd.closure=[]) (hglob:fd.globals=mainGlobals) (hbl:fd.builtins=builtinsNs) (hnd:g'.nm.Nodup) (hn:n≤g'.nm.length)
  (hb:∀ (us:List Value),us.length=n→bindArgs fd ⟨us,[]⟩=pure ((g'.nm.take n).zip us))
  (hloc:∀ (q:Nat),∀ x∈g'.nm.take n,fd.scope.names.lookup x=some .local∨(fd.scope.names.lookup x=some .cell∧∃ c,(cellsFrom q fd.scope.names []).lookup x=some c))
  (hs:aj1 S g' d body mb) (hcode:∀ c,g'.code=some c→fd.code=c:=by intro c h;cases h):aj2 S (d + 1) (.ref a) (fun as=>gE as n (aQj g'.nm.length mb as)):=by
 intro cx A W st QM EM Q E as us hA R vas hm hQ hE
 obtain ⟨hlen,hm⟩:=bZr hm
 have hul:us.length=n:=(VRs.length vas).trans hlen
 have kin:S.K.In W.s.heap:=R.stat.kin.keeps R.stays
 have hdep:=hA.depth
 have hun:=hA.units
 have hnt:(g'.nm.take n).Nodup:=hnd.sublist (List.take_sublist _ _)
 refine wpAny_call (codeAny_call_cells (fd:=fd) (body:=body) (binds:=(g'.nm.take n).zip us) (by walk_at "O") (kin a _ ho) rfl (R.stat.nolimit.keeps R.stays) (codeRec_of kin hcd) hbody (hb us hul) hcl
  (fun x hx=>?_) (fun s₁ X=>?_) hco hgen hk)
 ·rcases hloc (W.s.heap.objs.size + 1) _ (List.of_mem_zip (show (x.1,x.2)∈_ from hx)).1 with h | ⟨h,c,hc⟩
  ·exact .inl h
  ·exact .inr ⟨h,by rw [hc];rfl⟩
 ·obtain ⟨⟨⟨h₀,tk,hsame⟩,hns,hk₀,hfresh⟩,hcells,hap,habove⟩:=X
  generalize hL:(callEnvC fd W.s.heap.objs.size a).locals=L at hns hcells hap habove hfresh
  have hLe:L=W.s.heap.objs.size:=by rw [← hL];rfl
  have hnew:W.s.heap.get? L=none:=Heap.get?_none_of_le hfresh
  have ltL:∀ {b o},W.s.heap.get? b=some o→b≠L:=fun e z=>by rw [z,hnew] at e;cases e
  have e1:s₁.heap=h₀:=by rw [hsame]
  have hk₁:∀ b o,W.s.heap.get? b=some o→s₁.heap.get? b=some o:=hk₀
  have l:Le W ⟨s₁,W.rho,fun b=>W.D b∨b=L⟩:=⟨fun b o e hd=>⟨hk₁ b o e,fun q=>q.elim hd (ltL e)⟩,List.prefix_refl _⟩
  have R':Rel S ⟨callEnvC fd W.s.heap.objs.size a,g'.nm,⟨cx.env,cx.nm,st.loc⟩::cx.outer,callEnvC fd W.s.heap.objs.size a::cx.stk,cx.base,cx.os,cx.pins⟩
    ⟨s₁,W.rho,fun b=>W.D b∨b=L⟩ ⟨as++List.replicate (g'.nm.length - as.length) .unb,st.objs⟩:=by
   have z:=R.enter (env':=callEnvC fd W.s.heap.objs.size a) (nm:=g'.nm) (locs:=as++List.replicate (g'.nm.length - as.length) .unb) (s':=s₁) (stk':=callEnvC fd W.s.heap.objs.size a::cx.stk) ⟨hk,hglob,hbl⟩ (by rw [hL];exact hnew) hk₁ (by rw [hsame];exact R.gens) (by rw [hsame]) hnd ?_ (fun b z=>(List.mem_cons.mp (show b∈W.s.heap.objs.size::cx.stk.filterMap (·.frame) from z)).imp (fun z=>by rw [hL,hLe];exact z) id) ?_ ⟨_,_,W.s.heap.objs.size,rfl,rfl,rfl⟩ (fun e0 r e=>(by cases e;exact ⟨hgen,hco,hbl,hglob⟩))
   ·rw [hL] at z;exact z
   ·rw [hL]
    refine ⟨.inr hL,_,by show s₁.heap.Ns (callEnvC fd W.s.heap.objs.size a).locals _;rw [hL];exact hns,fun k mv hkk hu=>?_⟩
    have hklt:k < as.length:=by
     rcases Nat.lt_or_ge k as.length with h | h
     ·exact h
     ·rw [List.getElem?_append_right h,List.getElem?_replicate] at hkk
      split at hkk
      ·cases hkk;exact absurd rfl hu
      ·cases hkk
    rw [List.getElem?_append_left hklt] at hkk
    refine ajl (VRs.get vas hkk) fun v hv hr=>?_
    have hkn:k < (g'.nm.take n).length:=by rw [List.length_take];walk_at "O"
    have hx:(g'.nm.take n)[k]? = some (g'.nm.take n)[k]:=List.getElem?_eq_getElem hkn
    have hmem:=List.mem_of_getElem? hx
    refine ⟨(g'.nm.take n)[k],v,?_,VR.mono l _ _ hr,?_⟩
    ·rw [← hx,List.getElem?_take]
     rw [if_pos (by walk_at "O")]
    ·rcases hloc (W.s.heap.objs.size + 1) _ hmem with h | ⟨h,c,hc⟩
     ·exact .inl ⟨h,aVu hnt hx hv h⟩
     ·have hcell:=hcells _ c hc
      have hcm:=aVv (kd:=(callEnvC fd W.s.heap.objs.size a).kindOf) (m0:=fun _=>none) hnt hx hv (by show fd.scope.names.lookup _≠_;rw [h];decide)
      rw [hcm] at hcell
      revert hcell;refine azC fun o ho1 ho2=>?_
      refine .inr ⟨.inl h,c,o,hc,fun z=>?_,ho1,ho2⟩
      have hcL:L < c:=habove _ c (by
       have:∀ (l:List (Str×Addr)) (x:Str) (c:Addr),l.lookup x=some c→(x,c)∈l:=fun l x c h=>mem_of_lookup h
       exact this _ _ _ hc)
      rcases z with z | z
      ·obtain ⟨o',e'⟩:=R.dlt c z
       have:=Heap.lt_size e'
       exact absurd (Nat.lt_of_lt_of_le this hfresh) (Nat.not_lt.mpr (Nat.le_of_lt hcL))
      ·exact absurd hcL (by rw [z];exact Nat.lt_irrefl _)
   ·refine ⟨fun z=>(by rw [show (callEnvC fd W.s.heap.objs.size a).scope=fd.scope from rfl,hk] at z;cases z),?_,R.stk.of_keeps fun b o e _=>⟨o,hk₁ b o e,rfl⟩⟩
    revert hns;refine akS fun o es ep e1 e2 _=>?_
    refine ⟨W.s.heap.objs.size,o,rfl,?_,by rw [← hLe];exact e1,fun vs q=>by rw [e2] at q;cases q⟩
    cases q:cx.base.get? W.s.heap.objs.size with
    | none=>rfl
    | some o=>exact absurd hLe.symm (ltL (R.stays _ _ q))
  have hA':AOK ⟨callEnvC fd W.s.heap.objs.size a,g'.nm,⟨cx.env,cx.nm,st.loc⟩::cx.outer,callEnvC fd W.s.heap.objs.size a::cx.stk,cx.base,cx.os,cx.pins⟩ d (A.deeper (callEnvC fd W.s.heap.objs.size a)):=
   ⟨by show A.frames.map _=_;rw [hA.frames];rfl,by show A.depth + 1 + 4 * d + 110 < _;walk_at "O",by show A.units + 3 + 16 * d + 16 < _;walk_at "O",hA.handled⟩
  refine hs.run _ (A.deeper (callEnvC fd W.s.heap.objs.size a)) _ _ _ _ _ _ ⟨hsc,rfl,hcode⟩ hA' R' hm (fun W'' st'' f f' l'' R'' hf hq=>?_) fun W'' st'' e c s'' l'' R'' F hq=>?_
  ·revert hq;refine bzF fun q1 q2 q3=>?_
   obtain ⟨lb,Rb⟩:=Rel.back (W3:=⟨W''.s,W.rho,fun b=>W''.D b∧b≠L⟩) R R'' (l.trans l'') rfl rfl rfl rfl rfl hL (by rw [hLe];rfl) hnew q2 rfl rfl (fun b h=>h.1) fun b h1 h2=>⟨h1,h2⟩
   have vb:∀ v,VR S.w.params S.C W'' f.val v→VR S.w.params S.C ⟨W''.s,W.rho,fun b=>W''.D b∧b≠L⟩ f.val v:=fun v hv=>
    VR.shrink (W:=W'') (W':=⟨W''.s,W.rho,fun b=>W''.D b∧b≠L⟩) (n:=st.objs.length) (fun b o e hd=>⟨e,fun z=>hd z.1⟩) (fun i b hi e=>by
     obtain ⟨t,ht⟩:=(l.trans l'').rho
     rw [← ht,List.getElem?_append_left (by rw [R.len];exact hi)] at e
     exact e) _ _ q1 hv
   cases f with
   | next=>cases hf;exact hQ ⟨W''.s,W.rho,fun b=>W''.D b∧b≠L⟩ _ _ _ lb Rb (by exact rfl) q3
   | brk=>cases hf;exact hQ ⟨W''.s,W.rho,fun b=>W''.D b∧b≠L⟩ _ _ _ lb Rb (by exact rfl) q3
   | cont=>cases hf;exact hQ ⟨W''.s,W.rho,fun b=>W''.D b∧b≠L⟩ _ _ _ lb Rb (by exact rfl) q3
   | ret v=>revert hf;refine azC fun u e1_ hu=>?_;subst e1_;exact hQ ⟨W''.s,W.rho,fun b=>W''.D b∧b≠L⟩ _ _ _ lb Rb (vb _ hu) q3
  ·obtain ⟨q2,q3⟩:=hq
   obtain ⟨lb,Rb⟩:=Rel.back (W3:=⟨W''.s,W.rho,W''.D⟩) R R'' (l.trans l'') rfl rfl rfl rfl rfl hL (by rw [hLe];rfl) hnew q2 rfl rfl (fun b h=>h) fun b h1 h2=>h1
   exact bxC hA' R R'' (l.trans l'') rfl rfl hL (by rw [hLe];rfl) rfl hnew F fun s3 F3=>hE ⟨W''.s,W.rho,W''.D⟩ _ e c s3 lb Rb F3 q3
end
end Mine
end
section
namespace Mine
open PySem PySem.W PyProof.Rows PySem.Calls
noncomputable abbrev top:List Stmt:=PySem.Challenge.pw_ji0035_01.main.body
noncomputable def atS:List Stmt→Nat→Stmt
 | s::_,0=>s
 | _::r,n + 1=>atS r n
 | [],_=>.Pass ⟨0,0,0,0⟩
noncomputable def aja:Stmt→List Stmt
 | .FunctionDef _ _ b ..=>b
 | .ClassDef _ _ _ b ..=>b
 | _=>[]
noncomputable def bkQ:Stmt→Str
 | .FunctionDef n ..=>n
 | .ClassDef ..=>""
 | _=>""
noncomputable def bkR:Stmt→Arguments
 | .FunctionDef _ a ..=>a
 | _=>{ posonlyargs:=[],args:=[],vararg:=none,kwonlyargs:=[],kw_defaults:=[],kwarg:=none,defaults:=[] }
noncomputable def ajd:Stmt→Scope
 | .FunctionDef _ _ _ _ _ _ s ..=>s
 | _=>{ kind:=.function,names:=[],isGenerator:=false,isCoroutine:=false }
noncomputable abbrev vs (s:Str) (t:Nat):Value:=.str s t
noncomputable abbrev vi (i:Int):Value:=.int i 0
noncomputable abbrev vr (a:Addr):Value:=.ref a
noncomputable abbrev kh (P:Params) (s:Str):Int:=PySem.PyData.keyHash P s
noncomputable abbrev en (P:Params) (s:Str) (t:Nat) (v:Value):DictEntry:=⟨kh P s,.str s t,v⟩
noncomputable abbrev cdO (xs:Array Value):Obj:={ cls:=.type "code",data:=.fields xs }
noncomputable abbrev fnO (s:Stmt) (q:Str) (dV:Value) (pm:Str) (t:Nat) (cd:Addr):Obj:=
 {cls:=.type "function",data:=.func { name:=bkQ s,qualname:=q,params:=bkR s,body:=.stmts (aja s),scope:=ajd s,globals:=3,closure:=[],defaults:=dV,kwdefaults:=.none,pyModule:=.str pm t,code:=.ref cd } }
noncomputable def KK (P:Params):Frag:=[
 (2,{ cls:=Value.none,data:=Data.dict #[en P "type.__subclasses__.Exception.0" 212 (Value.int 31 0),en P "type.__subclasses__.Exception.n" 213 (Value.int 2 0),en P "type.__subclasses__.Exception.1" 289 (Value.int 84 0)] 3 }),
 (3,{ cls:=Value.type "dict",data:=Data.dict #[en P "__name__" 165 (vs "law_ji0035_01" 549),en P "__doc__" 166 (Value.none),en P "__package__" 167 (Value.none),en P "__loader__" 168 (Value.builtin "__main__.__loader__#opaque"),en P "__spec__" 169 (Value.none),en P "__annotations__" 170 (Value.ref 6),en P "__builtins__" 171 (Value.ref 4),en P "__file__" 173 (vs "/claim/cut.py" 172),en P "__cached__" 174 (Value.none),en P "_wall" 193 (Value.ref 21),en P "RefFormatError" 215 (Value.ref 31),en P "_digit" 224 (Value.ref 41),en P "unhexlify" 230 (Value.ref 46),en P "ObjectID" 237 (Value.ref 53),en P "ZERO_SHA" 239 (Value.bytes #[48,48,48,48,48,48,48,48,48,48,48,48,48,48,48,48,48,48,48,48,48,48,48,48,48,48,48,48,48,48,48,48,48,48,48,48,48,48,48,48] 238),en P "valid_hexsha" 246 (Value.ref 60),en P "HEADREF" 250 (Value.bytes #[72,69,65,68] 249),en P "SYMREF" 252 (Value.bytes #[114,101,102,58,32] 251),en P "BAD_REF_CHARS" 254 (Value.bytes #[127,32,126,94,58,63,42,91] 253),en P "Ref" 261 (Value.ref 67),en P "SymrefLoop" 292 (Value.ref 84),en P "parse_symref_value" 299 (Value.ref 94),en P "check_ref_format" 309 (Value.ref 101),en P "_collapse_slashes" 316 (Value.ref 108),en P "RefsContainer" 451 (Value.ref 204),en P "DictRefsContainer" 548 (Value.ref 281),en P "_law_names" 556 (Value.ref 290),en P "_law_fronts" 562 (Value.ref 297),en P "_law_pieces" 568 (Value.ref 304),en P "_law_values" 574 (Value.ref 311),en P "_law_named" 586 (Value.ref 318),en P "_law_right" 593 (Value.ref 325),en P "_law_walk" 604 (Value.ref 332),en P "_law_with" 615 (Value.ref 339),en P "_law_due" 629 (Value.ref 346),en P "_law_told" 641 (Value.ref 353),en P "_law_under" 647 (Value.ref 358),en P "_law_ends" 658 (Value.ref 365),en P "law" 688 (Value.ref 372)] 39 }),
 (20,cdO #[vs "_wall" 187,vs "_wall" 188,vs "/claim/cut.py" 189,vi 1,vi 1,vi 0,vi 0,vi 3,vr 15,.bool true,vi 181,vr 16,.none,vr 17,vr 18,vr 19,vi 191,vi 1,vs "/claim/cut.py" 192]),
 (21,fnO (atS top 0) "_wall" (.none) "__main__" 164 20),
 (30,{ cls:=Value.type "dict",data:=Data.dict #[en P "__module__" 203 (vs "dulwich.errors" 194),en P "__firstlineno__" 207 (Value.int 5 206),en P "__static_attributes__" 208 (Value.ref 29),en P "__weakref__" 210 (Value.ref 32),en P "__doc__" 211 (Value.none)] 3 }),
 (31,{ cls:=Value.type "type",data:=Data.cls { name:="RefFormatError",bases:=[Value.type "Exception"],mro:=[Value.ref 31,Value.type "Exception",Value.type "BaseException",Value.type "object"],ns:=30,qualname:="RefFormatError" },slots:=#[some (Value.ref 22),none,some (vs "RefFormatError" 196),some (vs "RefFormatError" 204),some (Value.builtin "Exception.__new__"),some (Value.bool true)] }),
 (32,{ cls:=Value.type "getset_descriptor",data:=Data.fields #[vs "__weakref__" 209,Value.ref 31,Value.builtin "ExceptionGroup.__weakref__",Value.none] }),
 (40,cdO #[vs "_digit" 218,vs "_digit" 219,vs "/claim/cut.py" 220,vi 8,vi 1,vi 0,vi 0,vi 3,vr 35,.bool true,vi 181,vr 36,.none,vr 37,vr 38,vr 39,vi 222,vi 8,vs "/claim/cut.py" 223]),
 (41,fnO (atS top 4) "_digit" (.none) "dulwich.objects" 216 40),
 (45,cdO #[vs "unhexlify" 225,vs "unhexlify" 226,vs "/claim/cut.py" 227,vi 16,vi 1,vi 0,vi 0,vi 3,vr 42,.bool true,vi 181,vr 43,.none,.none,.none,vr 44,vi 228,vi 16,vs "/claim/cut.py" 229]),
 (46,fnO (atS top 5) "unhexlify" (.none) "dulwich.objects" 216 45),
 (52,cdO #[vs "ObjectID" 231,vs "ObjectID" 232,vs "/claim/cut.py" 233,vi 20,vi 1,vi 0,vi 0,vi 3,vr 47,.bool true,vi 181,vr 48,.none,vr 49,vr 50,vr 51,vi 235,vi 20,vs "/claim/cut.py" 236]),
 (53,fnO (atS top 6) "ObjectID" (.none) "dulwich.objects" 216 52),
 (59,cdO #[vs "valid_hexsha" 240,vs "valid_hexsha" 241,vs "/claim/cut.py" 242,vi 23,vi 1,vi 0,vi 0,vi 3,vr 54,.bool true,vi 181,vr 55,.none,vr 56,vr 57,vr 58,vi 244,vi 23,vs "/claim/cut.py" 245]),
 (60,fnO (atS top 8) "valid_hexsha" (.none) "dulwich.objects" 216 59),
 (66,cdO #[vs "Ref" 255,vs "Ref" 256,vs "/claim/cut.py" 257,vi 36,vi 1,vi 0,vi 0,vi 3,vr 61,.bool true,vi 181,vr 62,.none,vr 63,vr 64,vr 65,vi 259,vi 36,vs "/claim/cut.py" 260]),
 (67,fnO (atS top 13) "Ref" (.none) "dulwich.refs" 247 66),
 (80,cdO #[vs "__init__" 274,vs "SymrefLoop.__init__" 275,vs "/claim/cut.py" 276,vi 40,vi 3,vi 0,vi 0,vi 3,vr 75,.bool true,vi 181,vr 76,.none,vr 77,vr 78,vr 79,vi 280,vi 40,vs "/claim/cut.py" 281]),
 (81,fnO (atS (aja (atS top 14)) 0) "SymrefLoop.__init__" (.none) "dulwich.refs" 247 80),
 (83,{ cls:=Value.type "dict",data:=Data.dict #[en P "__module__" 269 (vs "dulwich.refs" 247),en P "__firstlineno__" 273 (Value.int 38 272),en P "__init__" 282 (Value.ref 81),en P "__static_attributes__" 285 (Value.ref 82),en P "__weakref__" 287 (Value.ref 85),en P "__doc__" 288 (Value.none)] 3 }),
 (84,{ cls:=Value.type "type",data:=Data.cls { name:="SymrefLoop",bases:=[Value.type "Exception"],mro:=[Value.ref 84,Value.type "Exception",Value.type "BaseException",Value.type "object"],ns:=83,qualname:="SymrefLoop" },slots:=#[some (Value.ref 68),none,some (vs "SymrefLoop" 262),some (vs "SymrefLoop" 270),some (Value.builtin "Exception.__new__"),some (Value.bool true)] }),
 (85,{ cls:=Value.type "getset_descriptor",data:=Data.fields #[vs "__weakref__" 286,Value.ref 84,Value.builtin "ExceptionGroup.__weakref__",Value.none] }),
 (93,cdO #[vs "parse_symref_value" 293,vs "parse_symref_value" 294,vs "/claim/cut.py" 295,vi 43,vi 1,vi 0,vi 0,vi 3,vr 88,.bool true,vi 181,vr 89,.none,vr 90,vr 91,vr 92,vi 297,vi 43,vs "/claim/cut.py" 298]),
 (94,fnO (atS top 15) "parse_symref_value" (.none) "dulwich.refs" 247 93),
 (100,cdO #[vs "check_ref_format" 300,vs "check_ref_format" 301,vs "/claim/cut.py" 302,vi 47,vi 1,vi 0,vi 0,vi 3,vr 95,.bool true,vi 181,vr 96,.none,vr 97,vr 98,vr 99,vi 307,vi 47,vs "/claim/cut.py" 308]),
 (101,fnO (atS top 16) "check_ref_format" (.none) "dulwich.refs" 247 100),
 (107,cdO #[vs "_collapse_slashes" 310,vs "_collapse_slashes" 311,vs "/claim/cut.py" 312,vi 71,vi 1,vi 0,vi 0,vi 3,vr 102,.bool true,vi 181,vr 103,.none,vr 104,vr 105,vr 106,vi 314,vi 71,vs "/claim/cut.py" 315]),
 (108,fnO (atS top 17) "_collapse_slashes" (.none) "dulwich.refs" 247 107),
 (116,{ cls:=Value.type "tuple",data:=Data.seq #[Value.none] }),
 (122,cdO #[vs "keys" 329,vs "RefsContainer.keys" 330,vs "/claim/cut.py" 331,vi 75,vi 2,vi 0,vi 0,vi 3,vr 117,.bool true,vi 181,vr 118,.none,vr 119,vr 120,vr 121,vi 334,vi 75,vs "/claim/cut.py" 335]),
 (123,fnO (atS (aja (atS top 18)) 0) "RefsContainer.keys" (.ref 116) "dulwich.refs" 247 122),
 (129,cdO #[vs "subkeys" 337,vs "RefsContainer.subkeys" 338,vs "/claim/cut.py" 339,vi 81,vi 2,vi 0,vi 0,vi 3,vr 124,.bool true,vi 181,vr 125,.none,vr 126,vr 127,vr 128,vi 345,vi 81,vs "/claim/cut.py" 346]),
 (130,fnO (atS (aja (atS top 18)) 1) "RefsContainer.subkeys" (.none) "dulwich.refs" 247 129),
 (131,{ cls:=Value.type "tuple",data:=Data.seq #[Value.none] }),
 (137,cdO #[vs "as_dict" 348,vs "RefsContainer.as_dict" 349,vs "/claim/cut.py" 350,vi 89,vi 2,vi 0,vi 0,vi 3,vr 132,.bool true,vi 181,vr 133,.none,vr 134,vr 135,vr 136,vi 357,vi 89,vs "/claim/cut.py" 358]),
 (138,fnO (atS (aja (atS top 18)) 2) "RefsContainer.as_dict" (.ref 131) "dulwich.refs" 247 137),
 (144,cdO #[vs "_check_refname" 360,vs "RefsContainer._check_refname" 361,vs "/claim/cut.py" 362,vi 104,vi 2,vi 0,vi 0,vi 3,vr 139,.bool true,vi 181,vr 140,.none,vr 141,vr 142,vr 143,vi 366,vi 104,vs "/claim/cut.py" 367]),
 (145,fnO (atS (aja (atS top 18)) 3) "RefsContainer._check_refname" (.none) "dulwich.refs" 247 144),
 (151,cdO #[vs "_check_ref_value" 369,vs "RefsContainer._check_ref_value" 370,vs "/claim/cut.py" 371,vi 116,vi 2,vi 0,vi 0,vi 3,vr 146,.bool true,vi 181,vr 147,.none,vr 148,vr 149,vr 150,vi 374,vi 116,vs "/claim/cut.py" 375]),
 (152,fnO (atS (aja (atS top 18)) 4) "RefsContainer._check_ref_value" (.none) "dulwich.refs" 247 151),
 (158,cdO #[vs "read_ref" 377,vs "RefsContainer.read_ref" 378,vs "/claim/cut.py" 379,vi 120,vi 2,vi 0,vi 0,vi 3,vr 153,.bool true,vi 181,vr 154,.none,vr 155,vr 156,vr 157,vi 383,vi 120,vs "/claim/cut.py" 384]),
 (159,fnO (atS (aja (atS top 18)) 5) "RefsContainer.read_ref" (.none) "dulwich.refs" 247 158),
 (165,cdO #[vs "follow" 386,vs "RefsContainer.follow" 387,vs "/claim/cut.py" 388,vi 126,vi 2,vi 0,vi 0,vi 3,vr 160,.bool true,vi 181,vr 161,.none,vr 162,vr 163,vr 164,vi 395,vi 126,vs "/claim/cut.py" 396]),
 (166,fnO (atS (aja (atS top 18)) 6) "RefsContainer.follow" (.none) "dulwich.refs" 247 165),
 (172,cdO #[vs "__contains__" 398,vs "RefsContainer.__contains__" 399,vs "/claim/cut.py" 400,vi 141,vi 2,vi 0,vi 0,vi 3,vr 167,.bool true,vi 181,vr 168,.none,vr 169,vr 170,vr 171,vi 403,vi 141,vs "/claim/cut.py" 404]),
 (173,fnO (atS (aja (atS top 18)) 7) "RefsContainer.__contains__" (.none) "dulwich.refs" 247 172),
 (179,cdO #[vs "__getitem__" 406,vs "RefsContainer.__getitem__" 407,vs "/claim/cut.py" 408,vi 146,vi 2,vi 0,vi 0,vi 3,vr 174,.bool true,vi 181,vr 175,.none,vr 176,vr 177,vr 178,vi 413,vi 146,vs "/claim/cut.py" 414]),
 (180,fnO (atS (aja (atS top 18)) 8) "RefsContainer.__getitem__" (.none) "dulwich.refs" 247 179),
 (186,cdO #[vs "__setitem__" 416,vs "RefsContainer.__setitem__" 417,vs "/claim/cut.py" 418,vi 152,vi 3,vi 0,vi 0,vi 3,vr 181,.bool true,vi 181,vr 182,.none,vr 183,vr 184,vr 185,vi 422,vi 152,vs "/claim/cut.py" 423]),
 (187,fnO (atS (aja (atS top 18)) 9) "RefsContainer.__setitem__" (.none) "dulwich.refs" 247 186),
 (193,cdO #[vs "__delitem__" 425,vs "RefsContainer.__delitem__" 426,vs "/claim/cut.py" 427,vi 156,vi 2,vi 0,vi 0,vi 3,vr 188,.bool true,vi 181,vr 189,.none,vr 190,vr 191,vr 192,vi 430,vi 156,vs "/claim/cut.py" 431]),
 (194,fnO (atS (aja (atS top 18)) 10) "RefsContainer.__delitem__" (.none) "dulwich.refs" 247 193),
 (200,cdO #[vs "get_symrefs" 433,vs "RefsContainer.get_symrefs" 434,vs "/claim/cut.py" 435,vi 159,vi 1,vi 0,vi 0,vi 3,vr 195,.bool true,vi 181,vr 196,.none,vr 197,vr 198,vr 199,vi 441,vi 159,vs "/claim/cut.py" 442]),
 (201,fnO (atS (aja (atS top 18)) 11) "RefsContainer.get_symrefs" (.none) "dulwich.refs" 247 200),
 (203,{ cls:=Value.type "dict",data:=Data.dict #[en P "__module__" 324 (vs "dulwich.refs" 247),en P "__firstlineno__" 328 (Value.int 73 327),en P "keys" 336 (Value.ref 123),en P "subkeys" 347 (Value.ref 130),en P "as_dict" 359 (Value.ref 138),en P "_check_refname" 368 (Value.ref 145),en P "_check_ref_value" 376 (Value.ref 152),en P "read_ref" 385 (Value.ref 159),en P "follow" 397 (Value.ref 166),en P "__contains__" 405 (Value.ref 173),en P "__getitem__" 415 (Value.ref 180),en P "__setitem__" 424 (Value.ref 187),en P "__delitem__" 432 (Value.ref 194),en P "get_symrefs" 443 (Value.ref 201),en P "__static_attributes__" 444 (Value.ref 202),en P "__dict__" 446 (Value.ref 205),en P "__weakref__" 448 (Value.ref 206),en P "__doc__" 449 (Value.none)] 4 }),
 (204,{ cls:=Value.type "type",data:=Data.cls { name:="RefsContainer",bases:=[Value.type "object"],mro:=[Value.ref 204,Value.type "object"],ns:=203,qualname:="RefsContainer",subclasses:=[Value.ref 281] },slots:=#[none,none,some (vs "RefsContainer" 317),some (vs "RefsContainer" 325),some (Value.builtin "object.__new__"),some (Value.bool true)] }),
 (205,{ cls:=Value.type "getset_descriptor",data:=Data.fields #[vs "__dict__" 445,Value.ref 204,Value.builtin "function.__dict__",Value.builtin "function.__dict__#set"] }),
 (206,{ cls:=Value.type "getset_descriptor",data:=Data.fields #[vs "__weakref__" 447,Value.ref 204,Value.builtin "ExceptionGroup.__weakref__",Value.none] }),
 (221,cdO #[vs "__init__" 464,vs "DictRefsContainer.__init__" 465,vs "/claim/cut.py" 466,vi 173,vi 2,vi 0,vi 0,vi 3,vr 216,.bool true,vi 181,vr 217,.none,vr 218,vr 219,vr 220,vi 469,vi 173,vs "/claim/cut.py" 470]),
 (222,fnO (atS (aja (atS top 19)) 0) "DictRefsContainer.__init__" (.none) "dulwich.refs" 247 221),
 (228,cdO #[vs "allkeys" 472,vs "DictRefsContainer.allkeys" 473,vs "/claim/cut.py" 474,vi 177,vi 1,vi 0,vi 0,vi 3,vr 223,.bool true,vi 181,vr 224,.none,vr 225,vr 226,vr 227,vi 476,vi 177,vs "/claim/cut.py" 477]),
 (229,fnO (atS (aja (atS top 19)) 1) "DictRefsContainer.allkeys" (.none) "dulwich.refs" 247 228),
 (235,cdO #[vs "read_loose_ref" 479,vs "DictRefsContainer.read_loose_ref" 480,vs "/claim/cut.py" 481,vi 180,vi 2,vi 0,vi 0,vi 3,vr 230,.bool true,vi 181,vr 231,.none,vr 232,vr 233,vr 234,vi 484,vi 180,vs "/claim/cut.py" 485]),
 (236,fnO (atS (aja (atS top 19)) 2) "DictRefsContainer.read_loose_ref" (.none) "dulwich.refs" 247 235),
 (242,cdO #[vs "get_packed_refs" 487,vs "DictRefsContainer.get_packed_refs" 488,vs "/claim/cut.py" 489,vi 183,vi 1,vi 0,vi 0,vi 3,vr 237,.bool true,vi 181,vr 238,.none,vr 239,vr 240,vr 241,vi 491,vi 183,vs "/claim/cut.py" 492]),
 (243,fnO (atS (aja (atS top 19)) 3) "DictRefsContainer.get_packed_refs" (.none) "dulwich.refs" 247 242),
 (249,cdO #[vs "set_symbolic_ref" 494,vs "DictRefsContainer.set_symbolic_ref" 495,vs "/claim/cut.py" 496,vi 186,vi 3,vi 0,vi 0,vi 3,vr 244,.bool true,vi 181,vr 245,.none,vr 246,vr 247,vr 248,vi 502,vi 186,vs "/claim/cut.py" 503]),
 (250,fnO (atS (aja (atS top 19)) 4) "DictRefsContainer.set_symbolic_ref" (.none) "dulwich.refs" 247 249),
 (256,cdO #[vs "set_if_equals" 505,vs "DictRefsContainer.set_if_equals" 506,vs "/claim/cut.py" 507,vi 191,vi 4,vi 0,vi 0,vi 3,vr 251,.bool true,vi 181,vr 252,.none,vr 253,vr 254,vr 255,vi 513,vi 191,vs "/claim/cut.py" 514]),
 (257,fnO (atS (aja (atS top 19)) 5) "DictRefsContainer.set_if_equals" (.none) "dulwich.refs" 247 256),
 (263,cdO #[vs "add_if_new" 516,vs "DictRefsContainer.add_if_new" 517,vs "/claim/cut.py" 518,vi 200,vi 3,vi 0,vi 0,vi 3,vr 258,.bool true,vi 181,vr 259,.none,vr 260,vr 261,vr 262,vi 522,vi 200,vs "/claim/cut.py" 523]),
 (264,fnO (atS (aja (atS top 19)) 6) "DictRefsContainer.add_if_new" (.none) "dulwich.refs" 247 263),
 (270,cdO #[vs "remove_if_equals" 525,vs "DictRefsContainer.remove_if_equals" 526,vs "/claim/cut.py" 527,vi 207,vi 3,vi 0,vi 0,vi 3,vr 265,.bool true,vi 181,vr 266,.none,vr 267,vr 268,vr 269,vi 532,vi 207,vs "/claim/cut.py" 533]),
 (271,fnO (atS (aja (atS top 19)) 7) "DictRefsContainer.remove_if_equals" (.none) "dulwich.refs" 247 270),
 (277,cdO #[vs "get_peeled" 535,vs "DictRefsContainer.get_peeled" 536,vs "/claim/cut.py" 537,vi 216,vi 2,vi 0,vi 0,vi 3,vr 272,.bool true,vi 181,vr 273,.none,vr 274,vr 275,vr 276,vi 540,vi 216,vs "/claim/cut.py" 541]),
 (278,fnO (atS (aja (atS top 19)) 8) "DictRefsContainer.get_peeled" (.none) "dulwich.refs" 247 277),
 (280,{ cls:=Value.type "dict",data:=Data.dict #[en P "__module__" 459 (vs "dulwich.refs" 247),en P "__firstlineno__" 463 (Value.int 171 462),en P "__init__" 471 (Value.ref 222),en P "allkeys" 478 (Value.ref 229),en P "read_loose_ref" 486 (Value.ref 236),en P "get_packed_refs" 493 (Value.ref 243),en P "set_symbolic_ref" 504 (Value.ref 250),en P "set_if_equals" 515 (Value.ref 257),en P "add_if_new" 524 (Value.ref 264),en P "remove_if_equals" 534 (Value.ref 271),en P "get_peeled" 542 (Value.ref 278),en P "__static_attributes__" 545 (Value.ref 279),en P "__doc__" 546 (Value.none)] 2 }),
 (281,{ cls:=Value.type "type",data:=Data.cls { name:="DictRefsContainer",bases:=[Value.ref 204],mro:=[Value.ref 281,Value.ref 204,Value.type "object"],ns:=280,qualname:="DictRefsContainer" },slots:=#[some (Value.ref 209),none,some (vs "DictRefsContainer" 452),some (vs "DictRefsContainer" 460),some (Value.builtin "object.__new__"),some (Value.bool true)] }),
 (289,cdO #[vs "_law_names" 551,vs "_law_names" 552,vs "/claim/cut.py" 553,vi 219,vi 0,vi 0,vi 0,vi 3,vr 284,.bool true,vi 181,vr 285,.none,vr 286,vr 287,vr 288,vi 554,vi 219,vs "/claim/cut.py" 555]),
 (290,fnO (atS top 21) "_law_names" (.none) "law_ji0035_01" 549 289),
 (296,cdO #[vs "_law_fronts" 557,vs "_law_fronts" 558,vs "/claim/cut.py" 559,vi 221,vi 0,vi 0,vi 0,vi 3,vr 291,.bool true,vi 181,vr 292,.none,vr 293,vr 294,vr 295,vi 560,vi 221,vs "/claim/cut.py" 561]),
 (297,fnO (atS top 22) "_law_fronts" (.none) "law_ji0035_01" 549 296),
 (303,cdO #[vs "_law_pieces" 563,vs "_law_pieces" 564,vs "/claim/cut.py" 565,vi 223,vi 0,vi 0,vi 0,vi 3,vr 298,.bool true,vi 181,vr 299,.none,vr 300,vr 301,vr 302,vi 566,vi 223,vs "/claim/cut.py" 567]),
 (304,fnO (atS top 23) "_law_pieces" (.none) "law_ji0035_01" 549 303),
 (310,cdO #[vs "_law_values" 569,vs "_law_values" 570,vs "/claim/cut.py" 571,vi 225,vi 0,vi 0,vi 0,vi 3,vr 305,.bool true,vi 181,vr 306,.none,vr 307,vr 308,vr 309,vi 572,vi 225,vs "/claim/cut.py" 573]),
 (311,fnO (atS top 24) "_law_values" (.none) "law_ji0035_01" 549 310),
 (317,cdO #[vs "_law_named" 575,vs "_law_named" 576,vs "/claim/cut.py" 577,vi 227,vi 2,vi 0,vi 0,vi 3,vr 312,.bool true,vi 181,vr 313,.none,vr 314,vr 315,vr 316,vi 584,vi 227,vs "/claim/cut.py" 585]),
 (318,fnO (atS top 25) "_law_named" (.none) "law_ji0035_01" 549 317),
 (324,cdO #[vs "_law_right" 587,vs "_law_right" 588,vs "/claim/cut.py" 589,vi 244,vi 1,vi 0,vi 0,vi 3,vr 319,.bool true,vi 181,vr 320,.none,vr 321,vr 322,vr 323,vi 591,vi 244,vs "/claim/cut.py" 592]),
 (325,fnO (atS top 26) "_law_right" (.none) "law_ji0035_01" 549 324),
 (331,cdO #[vs "_law_walk" 594,vs "_law_walk" 595,vs "/claim/cut.py" 596,vi 248,vi 2,vi 0,vi 0,vi 3,vr 326,.bool true,vi 181,vr 327,.none,vr 328,vr 329,vr 330,vi 602,vi 248,vs "/claim/cut.py" 603]),
 (332,fnO (atS top 27) "_law_walk" (.none) "law_ji0035_01" 549 331),
 (338,cdO #[vs "_law_with" 605,vs "_law_with" 606,vs "/claim/cut.py" 607,vi 260,vi 3,vi 0,vi 0,vi 3,vr 333,.bool true,vi 181,vr 334,.none,vr 335,vr 336,vr 337,vi 613,vi 260,vs "/claim/cut.py" 614]),
 (339,fnO (atS top 28) "_law_with" (.none) "law_ji0035_01" 549 338),
 (345,cdO #[vs "_law_due" 616,vs "_law_due" 617,vs "/claim/cut.py" 618,vi 268,vi 6,vi 0,vi 0,vi 3,vr 340,.bool true,vi 181,vr 341,.none,vr 342,vr 343,vr 344,vi 627,vi 268,vs "/claim/cut.py" 628]),
 (346,fnO (atS top 29) "_law_due" (.none) "law_ji0035_01" 549 345),
 (352,cdO #[vs "_law_told" 630,vs "_law_told" 631,vs "/claim/cut.py" 632,vi 289,vi 6,vi 0,vi 0,vi 3,vr 347,.bool true,vi 181,vr 348,.none,vr 349,vr 350,vr 351,vi 639,vi 289,vs "/claim/cut.py" 640]),
 (353,fnO (atS top 30) "_law_told" (.none) "law_ji0035_01" 549 352),
 (357,cdO #[vs "_law_under" 642,vs "_law_under" 643,vs "/claim/cut.py" 644,vi 316,vi 2,vi 0,vi 0,vi 3,vr 354,.bool true,vi 181,vr 355,.none,.none,.none,vr 356,vi 645,vi 316,vs "/claim/cut.py" 646]),
 (358,fnO (atS top 31) "_law_under" (.none) "law_ji0035_01" 549 357),
 (364,cdO #[vs "_law_ends" 648,vs "_law_ends" 649,vs "/claim/cut.py" 650,vi 318,vi 2,vi 0,vi 0,vi 3,vr 359,.bool true,vi 181,vr 360,.none,vr 361,vr 362,vr 363,vi 656,vi 318,vs "/claim/cut.py" 657]),
 (365,fnO (atS top 32) "_law_ends" (.none) "law_ji0035_01" 549 364),
 (371,cdO #[vs "law" 659,vs "law" 660,vs "/claim/cut.py" 661,vi 325,vi 1,vi 0,vi 0,vi 3,vr 366,.bool true,vi 181,vr 367,.none,vr 368,vr 369,vr 370,vi 686,vi 325,vs "/claim/cut.py" 687]),
 (372,fnO (atS top 33) "law" (.none) "law_ji0035_01" 549 371)]
noncomputable abbrev bKf:List Nat:=[0,2,4,5,6,7,8,10,11,12,13,14,15,16,17,18,19,21,22,23,24,25,26,27,28,29,30,31,32,33]
noncomputable def aZW:Program:=view PySem.Challenge.pw_ji0035_01 bKf
noncomputable def bKF:List Addr:=[2,3,20,21,30,31,32,40,41,45,46,52,53,59,60,66,67,80,81,83,84,85,93,94,100,101,107,108,116,122,123,129,130,131,137,138,144,145,151,152,158,159,165,166,172,173,179,180,186,187,193,194,200,201,203,204,205,206,221,222,228,229,235,236,242,243,249,250,256,257,263,264,270,271,277,278,280,281,289,290,296,297,303,304,310,311,317,318,324,325,331,332,338,339,345,346,352,353,357,358,364,365,371,372]
noncomputable def aXw:Hook:=kHook KK bKF (fun P=>by kernel_rfl)
theorem bKc:LeftO PySem.Challenge.pw_ji0035_01 aZW [] (fun s=>xlAt aZW [] s && recOk (RowW.records PySem.Challenge.rw_ji0035_01.row.toRowW) s) aXw.obs aXw.val 4694:=fun w=>by
 unfold openEnds fencedOpening topFrom
 rw [PySem.W.Fast.te10274390034422433532,PySem.W.Fast.te14289696077712309145,PySem.W.Fast.te14082659384304107361,PySem.W.Fast.te4187177175401517315,PySem.W.Fast.te14364793385576792824,PySem.W.Fast.te8920871248978507458,PySem.W.Fast.te1435165496053646825,PySem.W.Fast.te5923862056798008813]
 kernel_rfl
end Mine
end
section
set_option genSizeOf false
set_option genInjectivity false
namespace Mine
open PySem PySem.W PyProof.Rows PySem.Calls
structure PF (S:ajA):Prop where
 k:S.K=KK S.w.params
 c:S.C=281
 t:S.tc=107
 glb:∀ (x:Str) (v:Option Value),nsIn S.K mainGlobals x=some v→S.mg x=v
theorem vTop {P:Params}{C:Addr} (a:Addr):∀ W:Wd,VR P C W (.top a) (.ref a):=fun W=>by rfl
theorem bKM {P:Params}{C:Addr} (n:String):∀ W:Wd,VR P C W (.typ n) (.type n):=fun W=>by rfl
theorem vBi {P:Params}{C:Addr} (n:String):∀ W:Wd,VR P C W (.bi n) (.builtin n):=fun W=>by rfl
theorem oTop {P:Params}{C:Addr} (a:Addr):∀ (W:Wd) (v:Value),VR P C W (.top a) v→v = .ref a:=fun W v h=>by exact h
theorem oTyp {P:Params}{C:Addr} (n:String):∀ (W:Wd) (v:Value),VR P C W (.typ n) v→v = .type n:=fun W v h=>by exact h
theorem oBi {P:Params}{C:Addr} (n:String):∀ (W:Wd) (v:Value),VR P C W (.bi n) v→v = .builtin n:=fun W v h=>by exact h
end Mine
end
section
namespace Mine
open PySem PySem.W PyProof.Rows PySem.Calls
variable {S:ajA}{g:Sig}{d:Nat}
theorem PF.refs (F:PF S):aXR S where
 dict:=by rw [F.k,F.c];exact ⟨_,rfl,rfl⟩
 ga:=by rw [F.k,F.c];kernel_rfl
 gk:=by rw [F.k,F.c];kernel_rfl
 refs:=by rw [F.k,F.c];kernel_rfl
 seq:=by rw [F.k,F.c];kernel_rfl
noncomputable def aJd (a:MV):M MV:=aQc a fun i=>ret (.int (-i))
theorem azO.neg:azO S d (VR S.w.params S.C) (unaryOp .USub) aJd:=by
 intro cx A W st QM EM Q E a u hA R va hm hQ hE
 refine ajl (azn hm) fun i e2_ h9=>?_;subst e2_
 obtain ⟨t,rfl⟩:=aJn va
 obtain ⟨l,R'⟩:=R.same (s':={ W.s with toks:=W.s.toks + 1 }) rfl rfl rfl
 exact neg_int (hQ _ _ _ _ l R' aZY h9)
noncomputable abbrev aj0 (me:M MV) (mr:M (List MV)):M (List MV):=bnd me fun a=>bnd mr fun as=>ret (a::as)
noncomputable abbrev ajk (knd:MV→MSt→Prop→Prop) (mo:M MV) (ma:M (List MV)) (mc:List MV→M MV):M MV:=bnd mo fun a st Q E=>knd a st (bnd ma (fun as=>mc (a::as)) st Q E)
noncomputable abbrev ajs (ml mr:M MV) (mo:MV→MV→M MV):M MV:=bnd ml fun a=>bnd mr fun b=>mo a b
noncomputable abbrev ajh (ml mr:M MV) (mo:MV→MV→M MV) (mt:MV→M Bool):M Bool:=bnd ml fun a=>bnd mr fun b=>bnd (mo a b) mt
noncomputable abbrev bJi (ml m1 m2:M MV) (o1 o2:MV→MV→M MV) (t1 t2:MV→M Bool):M Bool:=bnd ml fun a=>bnd m1 fun b=>bnd (o1 a b) fun c=>bnd (t1 c) fun t=>cond t (bnd m2 fun e=>bnd (o2 b e) t2) (ret false)
noncomputable abbrev aqc (m:M MV) (k:Nat):M MF:=bnd m fun a=>bnd (ajD k a) fun _=>ret .next
noncomputable abbrev aju (m:M MV):M MF:=bnd m fun v=>ret (.ret v)
noncomputable abbrev aka (m:M (List MV)):M MV:=bnd m fun xs=>gN xs (ret (.tup xs))
noncomputable abbrev aqi (m:M (List MV)):M MV:=bnd m fun xs=>gN xs (ret (.list xs))
noncomputable abbrev aje (mo ml mh:M MV):M MV:=bnd mo fun a=>bnd ml fun b=>bnd mh fun c=>av6 a b c
noncomputable abbrev bzK (m:M (List MV)) (c:Value):M MF:=bnd m fun as=>gN as (axC c)
noncomputable abbrev az9 (mv mo mi:M MV) (ms:MV→MV→MV→M Unit):M MF:=bnd mv fun c=>bnd mo fun a=>bnd mi fun b=>bnd (ms a b c) fun _=>ret .next
noncomputable abbrev axO (m:M MV):M MF:=bnd m fun _=>ret .next
noncomputable abbrev fnM (n k:Nat) (m:M MF):List MV→M MV:=fun as=>gE as n (aQj k m (as++[]))
noncomputable def bze (e:Expr):Option (List UInt8):=cond ((aJT e).1 == 4) (some (aJT e).2.2) none
theorem aZm {α : Type}{n k:Nat}{x y : α} (h:cond (n == k) (some x) none=some y):n=k∧x=y:=by
 cases e:n == k with
 | true=>rw [e] at h;exact ⟨beq_iff_eq.mp e,Option.some.inj h⟩
 | false=>rw [e] at h;cases h
theorem bkY {e:Expr}{x:List UInt8} (h:bze e=some x):∃ k p,e = .Constant (.bytes x) k p:=by
 have z:=bz6 e
 rw [(aZm h).1] at z
 rw [← (aZm h).2];exact z
noncomputable def bzi:List Expr→Option (List (List UInt8))
 | []=>some []
 | e::r=>(bze e).bind fun x=>(bzi r).map (x::·)
theorem ajw.consts {pos:Pos}:∀ {es:List Expr}{bs:List (List UInt8)},bzi es=some bs→ajw S g d pos es (ret (bs.map MV.bytes))
 | [],bs,h=>by cases h;exact ajw.nil
 | e::r,bs,h=>by
  refine ajl (Option.bind_eq_some_iff.mp (show (bze e).bind _=_ from h)) fun x h1 h2=>?_
  refine azD (bkY h1) fun k p e3_=>?_;subst e3_
  refine ajl (Option.map_eq_some_iff.mp h2) fun bs' h3 e4_=>?_;subst e4_
  exact ajw.cons aj5.cBytes (ajw.consts h3) rfl
end Mine
end
section
namespace Mine
open PySem PySem.W PyProof.Rows PySem.Calls
variable {S:ajA}{g:Sig}{d:Nat}
noncomputable abbrev aQ6:Value:=.type "ValueError"
noncomputable abbrev aVD:Value:=.type "KeyError"
noncomputable abbrev aKV:Value:=.ref 31
noncomputable abbrev akG:Value:=.ref 84
theorem axf (S:ajA):aqC S.K aQ6 [.type "ValueError",.type "Exception",.type "BaseException",.type "object"]:=.type (by decide +kernel)
theorem bJo (S:ajA):aqC S.K (.type "TypeError") [.type "TypeError",.type "Exception",.type "BaseException",.type "object"]:=.type (by decide +kernel)
theorem axh (S:ajA):aqC S.K aVD [.type "KeyError",.type "LookupError",.type "Exception",.type "BaseException",.type "object"]:=.type (by decide +kernel)
theorem axQ (F:PF S):aqC S.K aKV [.ref 31,.type "Exception",.type "BaseException",.type "object"]:=by
 have h:∃ od cd osl,S.K.lookup 31=some ⟨.type "type",od,.cls cd,osl⟩∧cd.mro.isEmpty=false∧cd.mro=[.ref 31,.type "Exception",.type "BaseException",.type "object"]:=by rw [F.k];exact ⟨_,_,_,rfl,rfl,rfl⟩
 revert h;refine akS fun od cd osl h1 h2 h3=>?_
 rw [← h3];exact .own h1 h2
theorem axg (F:PF S):aqC S.K akG [.ref 84,.type "Exception",.type "BaseException",.type "object"]:=by
 have h:∃ od cd osl,S.K.lookup 84=some ⟨.type "type",od,.cls cd,osl⟩∧cd.mro.isEmpty=false∧cd.mro=[.ref 84,.type "Exception",.type "BaseException",.type "object"]:=by rw [F.k];exact ⟨_,_,_,rfl,rfl,rfl⟩
 revert h;refine akS fun od cd osl h1 h2 h3=>?_
 rw [← h3];exact .own h1 h2
noncomputable def aKZ:List (Value×Bool):=[(aQ6,true),(aVD,false),(aKV,false),(akG,false)]
noncomputable def bzE:List (Value×Bool):=[(aQ6,false),(aVD,true),(aKV,false),(akG,false)]
noncomputable def bv6:List (Value×Bool):=[(aQ6,false),(aVD,false),(aKV,true),(akG,false)]
noncomputable def bv7:List (Value×Bool):=[(aQ6,false),(aVD,false),(aKV,false),(akG,true)]
noncomputable def aVG:List (Value×Bool):=[(aQ6,false),(aVD,true),(aKV,false),(akG,true)]
theorem bxG (K:Frag) (T:String) (h:isSubtype (.type ((Manifest.find? T).elim "type" fun x=>x.metatype)) (.type "tuple")=pure false):bzB K (.type T):=.inl ⟨T,rfl,h⟩
theorem aKv {K:Frag}{c:Value} (h:∃ a,c = .ref a∧∃ od cd osl,K.lookup a=some ⟨.type "type",od,.cls cd,osl⟩):bzB K c:=by
 revert h;refine bvk fun a h1 od cd osl h2=>?_
 exact .inr ⟨a,od,cd,osl,h1,h2⟩
theorem bjy (F:PF S) {t:Expr} (hn:Nm S g t aQ6):aKQ S g t aKZ:=by
 refine aKQ.one hn (bxG _ _ (isSubtype_of_subB (by decide +kernel))) (axf S) (by decide) ?_
 intro p hp
 simp only [aKZ,List.mem_cons,List.not_mem_nil,or_false] at hp
 rcases hp with rfl | rfl | rfl | rfl
 ·exact ⟨_,axf S,by decide⟩
 ·exact ⟨_,axh S,by decide⟩
 ·exact ⟨_,axQ F,by decide⟩
 ·exact ⟨_,axg F,by decide⟩
theorem bxh (F:PF S) {t:Expr} (hn:Nm S g t aVD):aKQ S g t bzE:=by
 refine aKQ.one hn (bxG _ _ (isSubtype_of_subB (by decide +kernel))) (axh S) (by decide) ?_
 intro p hp
 simp only [bzE,List.mem_cons,List.not_mem_nil,or_false] at hp
 rcases hp with rfl | rfl | rfl | rfl
 ·exact ⟨_,axf S,by decide⟩
 ·exact ⟨_,axh S,by decide⟩
 ·exact ⟨_,axQ F,by decide⟩
 ·exact ⟨_,axg F,by decide⟩
theorem bJZ (F:PF S) {t:Expr} (hn:Nm S g t aKV):aKQ S g t bv6:=by
 refine aKQ.one hn (aKv ⟨31,rfl,by rw [F.k];exact ⟨_,_,_,rfl⟩⟩) (axQ F) (by decide) ?_
 intro p hp
 simp only [bv6,List.mem_cons,List.not_mem_nil,or_false] at hp
 rcases hp with rfl | rfl | rfl | rfl
 ·exact ⟨_,axf S,by decide⟩
 ·exact ⟨_,axh S,by decide⟩
 ·exact ⟨_,axQ F,by decide⟩
 ·exact ⟨_,axg F,by decide⟩
theorem bQ0 (F:PF S) {t:Expr} (hn:Nm S g t akG):aKQ S g t bv7:=by
 refine aKQ.one hn (aKv ⟨84,rfl,by rw [F.k];exact ⟨_,_,_,rfl⟩⟩) (axg F) (by decide) ?_
 intro p hp
 simp only [bv7,List.mem_cons,List.not_mem_nil,or_false] at hp
 rcases hp with rfl | rfl | rfl | rfl
 ·exact ⟨_,axf S,by decide⟩
 ·exact ⟨_,axh S,by decide⟩
 ·exact ⟨_,axQ F,by decide⟩
 ·exact ⟨_,axg F,by decide⟩
theorem bvd (F:PF S) {t1 t2:Expr}{k:Nat}{pos:Pos} (h1:Nm S g t1 (.type "TypeError")) (h2:Nm S g t2 aQ6) (hs1:ajr t1=true) (hs2:ajr t2=true):aKQ S g (.Tuple [t1,t2] k pos) aKZ:=by
 refine aKQ.two h1 h2 (bJo S) (by decide) (axf S) (by decide) hs1 hs2 ?_
 intro p hp
 simp only [aKZ,List.mem_cons,List.not_mem_nil,or_false] at hp
 rcases hp with rfl | rfl | rfl | rfl
 ·exact ⟨_,axf S,by decide⟩
 ·exact ⟨_,axh S,by decide⟩
 ·exact ⟨_,axQ F,by decide⟩
 ·exact ⟨_,axg F,by decide⟩
theorem bve (F:PF S) {t1 t2:Expr}{k:Nat}{pos:Pos} (h1:Nm S g t1 akG) (h2:Nm S g t2 aVD) (hs1:ajr t1=true) (hs2:ajr t2=true):aKQ S g (.Tuple [t1,t2] k pos) aVG:=by
 refine aKQ.two h1 h2 (axg F) (by decide) (axh S) (by decide) hs1 hs2 ?_
 intro p hp
 simp only [aVG,List.mem_cons,List.not_mem_nil,or_false] at hp
 rcases hp with rfl | rfl | rfl | rfl
 ·exact ⟨_,axf S,by decide⟩
 ·exact ⟨_,axh S,by decide⟩
 ·exact ⟨_,axQ F,by decide⟩
 ·exact ⟨_,axg F,by decide⟩
end Mine
end
section
namespace Mine
open PySem PySem.W PyProof.Rows PySem.Calls
variable {S:ajA}{g:Sig}{d:Nat}
theorem aVV {K:Frag}{h:Heap}{N:Addr}{mg:Str→Option Value}{n:Str}{v:Value} (X:K.In h) (G:h.Ns N mg) (e:nsIn K N n=some (some v)):mg n=some v:=by
 revert G;refine aZa fun o es ep ho hd _ hf=>?_
 revert e
 unfold nsIn
 cases q:K.lookup N with
 | none=>exact fun e=>nomatch (show (none:Option (Option Value))=_ from e)
 | some ob=>
  have z:=X _ _ q
  rw [ho] at z
  cases z
  obtain ⟨c,dt,sl⟩:=o
  cases hd
  show (match es.toList.find? (·.key.isStr n) with
   | some e=>some (some e.val)
   | none=>if es.toList.any (·.refKey) then none else some none)=_→_
  cases he:es.toList.find? (·.key.isStr n) with
  | some en=>
   intro e
   rw [← hf]
   unfold nsFind findBy
   rw [← Array.find?_toList,he]
   exact Option.some.inj e
  | none=>
   show (if es.toList.any (·.refKey) then none else some none)=_→_
   cases es.toList.any (·.refKey)
   ·exact fun e=>nomatch (show some (none:Option Value)=_ from e)
   ·exact fun e=>nomatch (show (none:Option (Option Value))=_ from e)
theorem bKT {K:Frag}{N:Addr} (e:nsOkIn K N=true) (h:Heap) (X:K.In h):∃ mN,h.Ns N mN∧(∀ x v,nsIn K N x=some (some v)→mN x=some v)∧(∀ x,nsIn K N x=some none→mN x=none):=
 ⟨_,.of_isNs (isNs_of_in X e),fun x v q=>aVV X (.of_isNs (isNs_of_in X e)) q,fun x q=>ns_none_of X (.of_isNs (isNs_of_in X e)) q⟩
theorem akE (X₀:PF S) {x:Str}{np cpos pos:Pos}{es:List Expr}{ma:M (List MV)} (hn:Nm S g (.Name x np) aKV) (hs:es.all ajr=true) (ha:ajw S g d cpos es ma) :
  aj9 S g d (.Raise (some (.Call (.Name x np) es [] cpos)) none pos) (bzK ma aKV):=by
 have hC:bzC S 31 30 [.type "Exception",.type "BaseException",.type "object"] "Exception.__new__":=by
  unfold bzC;rw [X₀.k];exact ⟨_,_,_,_,_,_,_,_,_,_,_,_,_,_,rfl⟩
 exact aj9.raiseO F.excBase_Exception hC (fun h X=>by
  refine aKb (bKT (K:=S.K) (N:=30) (by rw [X₀.k];kernel_rfl) h X) fun mN h1 _ h3=>?_
  exact ⟨mN,h1,h3 _ (by rw [X₀.k];kernel_rfl)⟩) hn hs ha
theorem aK6 (X₀:PF S) {x:Str}{np cpos pos:Pos}{es:List Expr}{ma:M (List MV)} (hn:Nm S g (.Name x np) akG) (hs:es.all ajr=true) (ha:ajw S g (d + 1) cpos es ma) :
  aj9 S g (d + 1) (.Raise (some (.Call (.Name x np) es [] cpos)) none pos) (bnd ma fun as=>aqg (aKt as) (axC akG)):=by
 have hC:∃ nm q bs sn sub ab col dd k0 k1 k2 k3 k5,S.K.lookup 84=some (excClassObj nm q 84 83 bs [.type "Exception",.type "BaseException",.type "object"] true sn sub ab col dd k0 k1 k2 k3 k5 "Exception.__new__"):=by
  rw [X₀.k];exact ⟨_,_,_,_,_,_,_,_,_,_,_,_,_,rfl⟩
 revert hC;refine az3 fun nm q bs sn sub r8_=>?_;revert r8_;refine az3 fun ab col dd k0 k1 r8_=>?_;revert r8_;refine bQ5 fun k2 k3 k5 h3=>?_
 refine aj9.raiseI (oc:=.none) (fI:=81) (self:="self") (x1:="ref") (x2:="depth") (n1:="ref") (n2:="depth") F.excBase_Exception F.store_Exception h3 (by rw [X₀.k];rfl) (by rw [X₀.k];kernel_rfl) rfl rfl rfl rfl (by decide) (fun s a b c X=>BindsTo.of_eq (by kernel_rfl)) rfl rfl rfl (by decide) ⟨rfl,rfl,rfl⟩ ?_ ?_ (fun h X=>?_) hn hs ha
 ·rw [typeLookup_type,builtinLookup_eq_fast];kernel_rfl
 ·rw [typeLookup_type,builtinLookup_eq_fast];kernel_rfl
 ·refine aKb (bKT (K:=S.K) (N:=83) (by rw [X₀.k];kernel_rfl) h X) fun mN h1 h2 h3=>?_
  exact ⟨mN,h1,h2 _ _ (by rw [X₀.k];kernel_rfl),h3 _ (by rw [X₀.k];kernel_rfl),h3 _ (by rw [X₀.k];kernel_rfl),h3 _ (by rw [X₀.k];kernel_rfl)⟩
theorem bjN (X₀:PF S) {x:Str}{np dp pos:Pos} (hn:Nm S g (.Name x np) (.ref 281)):aj5 S g (d + 1) (.Call (.Name x np) [.Dict [] [] dp] [] pos) axo:=by
 exact aj5.newRefs X₀.refs (by rw [X₀.c];exact hn) (by rw [X₀.k,X₀.c];kernel_rfl) (by rw [X₀.k,X₀.c];kernel_rfl) (fI:=222) (by rw [X₀.k,X₀.c];kernel_rfl) (by rw [X₀.k];kernel_rfl) (by rw [X₀.k,X₀.c];kernel_rfl) (by rw [X₀.k,X₀.c];kernel_rfl) (by rw [X₀.k,X₀.c];kernel_rfl)
  (by rw [X₀.k,X₀.c];kernel_rfl) (by rw [X₀.k,X₀.c];kernel_rfl) (by rw [X₀.k];rfl) (by rw [X₀.k];kernel_rfl) rfl rfl rfl rfl (by decide) (fun s a b X=>BindsTo.of_eq (by kernel_rfl)) rfl rfl
end Mine
end
section
set_option genSizeOf false
set_option genInjectivity false
namespace Mine
open PySem PySem.W PyProof.Rows PySem.Calls
variable {S:ajA}{g:Sig}{d:Nat}
noncomputable abbrev TT:true=true:=Eq.refl true
noncomputable abbrev aV8 (x:Str):Bool:=!(x == ("__debug__" : Str))
theorem bqh {x:Str} (h:aV8 x=true):(x == ("__debug__" : Str))=false:=by simpa [aV8] using h
noncomputable abbrev bvP (g:Sig) (x:Str) (k:NameKind):Bool:=decide (g.sc.names.lookup x=some k)
noncomputable def bvJ (g:Sig) (k:Nat) (x:Str) (nk:NameKind):Bool:=decide (g.nm[k]? = some x) && bvP g x nk && aV8 x
theorem bqy {k:Nat}{x:Str}{nk:NameKind} (h:bvJ g k x nk=true):g.nm[k]? = some x∧g.sc.names.lookup x=some nk∧(x == ("__debug__" : Str))=false:=by
 unfold bvJ at h
 simp only [Bool.and_eq_true,decide_eq_true_eq] at h
 exact ⟨h.1.1,h.1.2,bqh h.2⟩
theorem aj6 (k:Nat) {x:Str}{pos:Pos} (h:bvJ g k x .local=true):aj5 S g d (.Name x pos) (getL k):=let ⟨a,b,c⟩:=bqy h;aj5.loc k a b c
theorem aXH (k:Nat) {x:Str}{pos:Pos} (h:bvJ g k x .cell=true):aj5 S g d (.Name x pos) (getL k):=let ⟨a,b,c⟩:=bqy h;aj5.cell k a b c
noncomputable def bxJ (g:Sig) (x:Str):Bool:=bvP g x .globalImplicit && aV8 x
theorem aXA {x:Str} (h:bxJ g x=true):g.sc.names.lookup x=some .globalImplicit∧(x == ("__debug__" : Str))=false:=by
 unfold bxJ at h
 simp only [Bool.and_eq_true,decide_eq_true_eq] at h
 exact ⟨h.1,bqh h.2⟩
theorem avp (X:PF S) (x:Str) (v:Option Value) (h:∀ P,nsIn (KK P) mainGlobals x=some v):S.mg x=v:=X.glb x v (by rw [X.k];exact h _)
structure aZ2 (S:ajA) (x:Str) (v:Value):Prop where
 mg:S.mg x=none
 bt:bootBuiltins x=some v
 ne:x≠"__name__"
theorem bja (X:PF S) {x:Str}{v:Value} (h:∀ P,nsIn (KK P) mainGlobals x=some none) (hb:bootBuiltins x=some v) (hn:decide (x≠"__name__")=true):aZ2 S x v:=⟨avp X x none h,hb,of_decide_eq_true hn⟩
theorem NmG {x:Str}{pos:Pos}{v:Value} (hm:S.mg x=some v) (h:bxJ g x=true):Nm S g (.Name x pos) v:=let ⟨a,b⟩:=aXA h;Nm.glob a hm b
theorem NmB {x:Str}{pos:Pos}{v:Value} (hm:aZ2 S x v) (h:bxJ g x=true):Nm S g (.Name x pos) v:=let ⟨a,b⟩:=aXA h;Nm.glbt a hm.mg hm.bt hm.ne b
theorem bqT {x:Str}{pos:Pos}{b:List UInt8}{t:Tok} (hm:S.mg x=some (.bytes b.toArray t)) (h:bxJ g x=true):aj5 S g d (.Name x pos) (ret (.bytes b)):=let ⟨a,c⟩:=aXA h;aj5.glob a hm (fun W=>azA) c
theorem bvZ {x:Str}{pos:Pos}{n:String} (hm:aZ2 S x (.type n)) (h:bxJ g x=true):aj5 S g d (.Name x pos) (ret (.typ n)):=let ⟨a,c⟩:=aXA h;aj5.glbt a hm.mg hm.bt hm.ne (bKM n) c
noncomputable def bJx (g:Sig) (x:Str) (es:List Expr):Bool:=bxJ g x && es.all ajr
theorem bzs {x:Str}{es:List Expr} (h:bJx g x es=true):bxJ g x=true∧es.all ajr=true:=by unfold bJx at h;simpa only [Bool.and_eq_true] using h
structure aQr (S:ajA) (x:Str) (a:Addr):Prop where
 mg:S.mg x=some (.ref a)
 kd:avo S (.ref a)
theorem ajP {x:Str}{np pos:Pos}{es:List Expr}{a:Addr}{ma:M (List MV)}{mc:List MV→M MV}{d':Nat} (N:aQr S x a) (h:bJx g x es=true) (ha:ajw S g d pos es ma) (hc:aj2 S d' (.ref a) mc) (hd:Nat.ble d' d=true) :
  aj5 S g d (.Call (.Name x np) es [] pos) (bnd ma mc):=
 let ⟨h1,h2⟩:=bzs h;let ⟨q1,q2⟩:=aXA h1
 aj5.call (aj5.glob q1 N.mg (vTop a) q2) (oTop a) N.kd h2 ha (hc.le (Nat.le_of_ble_eq_true hd))
theorem az6 {x:Str}{np pos:Pos}{es:List Expr}{n:String}{ma:M (List MV)}{mc:List MV→M MV} (N:aZ2 S x (.builtin n)) (h:bJx g x es=true) (ha:ajw S g d pos es ma) (hc:aj2 S d (.builtin n) mc) :
  aj5 S g d (.Call (.Name x np) es [] pos) (bnd ma mc):=
 let ⟨h1,h2⟩:=bzs h;let ⟨q1,q2⟩:=aXA h1
 aj5.call (aj5.glbt q1 N.mg N.bt N.ne (vBi n) q2) (oBi n) (.inl ⟨_,rfl⟩) h2 ha hc
theorem bJk {x:Str}{np pos:Pos}{es:List Expr}{n:String}{ma:M (List MV)}{mc:List MV→M MV} (N:aZ2 S x (.type n)) (h:bJx g x es=true) (ha:ajw S g d pos es ma) (hc:aj2 S d (.type n) mc) :
  aj5 S g d (.Call (.Name x np) es [] pos) (bnd ma mc):=
 let ⟨h1,h2⟩:=bzs h;let ⟨q1,q2⟩:=aXA h1
 aj5.call (aj5.glbt q1 N.mg N.bt N.ne (bKM n) q2) (oTyp n) (.inr (.inl ⟨_,rfl⟩)) h2 ha hc
theorem bjU {x:Str}{np pos:Pos}{es:List Expr}{ma:M (List MV)} (N:aZ2 S x (.type "range")) (h:bJx g x es=true) (ha:ajw S g d pos es ma):ak9 S g d (.Call (.Name x np) es [] pos) (bnd ma axB):=
 let ⟨h1,h2⟩:=bzs h;ak9.range (NmB N h1) h2 ha
noncomputable def bkk (o:Expr) (es:List Expr) (l1 l2:Nat):Bool:=es.all ajr && av3 o && (l1 == l2) && Nat.blt es.length 30
theorem bxA {o:Expr}{es:List Expr}{l1 l2:Nat} (h:bkk o es l1 l2=true):es.all ajr=true∧av3 o=true∧(l1 == l2)=true∧es.length < 30:=by
 unfold bkk at h
 simp only [Bool.and_eq_true] at h
 exact ⟨h.1.1.1,h.1.1.2,h.1.2,Nat.le_of_ble_eq_true h.2⟩
theorem ajQ {o:Expr}{name:Str}{apos pos:Pos}{es:List Expr}{f:String}{mo:M MV}{knd:MV→MSt→Prop→Prop}{ma:M (List MV)}{mc:List MV→M MV} (hf:ajH S d name knd (.builtin f)) (hc:aj2 S d (.builtin f) mc)
  (h:bkk o es apos.endLine pos.line=true) (ho:aj5 S g d o mo) (ha:ajw S g d pos es ma) :
  aj5 S g d (.Call (.Attribute o name apos) es [] pos) (ajk knd mo ma mc):=let ⟨a,b,c,e⟩:=bxA h;aj5.meth ho hf (.inl ⟨_,rfl⟩) a ha hc b c e
structure akD (S:ajA) (name:Str) (f:Addr):Prop where
 fi:findIn S.K (.ref S.C) name=some (some (.ref f))
 ty:isFn S.K (.ref f)=true
 n1:(Str.ofString "_refs" == name)=false
 n2:(Str.ofString "_peeled" == name)=false
 kd:avo S (.ref f)
theorem aqP (X:PF S) {o:Expr}{name:Str}{apos pos:Pos}{es:List Expr}{f:Addr}{mo:M MV}{ma:M (List MV)}{mc:List MV→M MV}{d':Nat} (N:akD S name f) (h:bkk o es apos.endLine pos.line=true)
  (ho:aj5 S g d o mo) (ha:ajw S g d pos es ma) (hc:aj2 S d' (.ref f) mc) (hd:Nat.ble d' d=true) :
  aj5 S g d (.Call (.Attribute o name apos) es [] pos) (ajk ajK mo ma mc):=let ⟨a,b,c,e⟩:=bxA h
 aj5.meth ho (ajH.refs X.refs N.fi N.ty N.n1 N.n2) N.kd a ha (hc.le (Nat.le_of_ble_eq_true hd)) b c e
noncomputable def bXd (g:Sig) (k:Nat) (x:Str) (v:Expr):Bool:=decide (g.nm[k]? = some x) && bvP g x .local && aki v
theorem azY {x:Str}{p:Pos}{v:Expr}{pos:Pos}{m:M MV} (k:Nat) (b:bXd g k x v=true) (h:aj5 S g d v m):aj9 S g d (.Assign [.Name x p] v pos) (aqc m k):=by
 unfold bXd at b
 simp only [Bool.and_eq_true,decide_eq_true_eq] at b
 exact aj9.assignN k h b.1.1 b.1.2 b.2
theorem aqq (k:Nat) {x:Str}{p:Pos} (h:bvJ g k x .local=true):aJ4 S g d (fun env v=>assign (.Name x p) env v) (ajD k):=let ⟨a,b,_⟩:=bqy h;aJ4.name k a b
theorem aZJ (k:Nat) {x:Str} (h:bvJ g k x .local=true):aJ4 S g d (fun env v=>bindName env x v) (ajD k):=let ⟨a,b,_⟩:=bqy h;aJ4.bind k a b
theorem aug_ {x:Str}{p:Pos}{v:Expr}{pos:Pos}{m:M MV} (k:Nat) (b:bvJ g k x .local=true) (h:aj5 S g d v m) :
  aj9 S g d (.AugAssign (.Name x p) .Add v pos) (bnd (getL k) fun a=>bnd m fun b=>bnd (bkt a b) fun c=>bnd (ajD k c) fun _=>ret .next):=let ⟨a,c,e⟩:=bqy b;aj9.aug k h aj4.iadd a c e
theorem aqY {es:List Expr}{k:Nat}{pos:Pos}{m:M (List MV)} (hn:Nat.ble es.length 1000=true) (h:ajw S g d pos es m):aj5 S g d (.Tuple es k pos) (aka m):=aj5.tupD h (Nat.le_trans (Nat.le_of_ble_eq_true hn) (by decide))
theorem azw {es:List Expr}{pos:Pos}{m:M (List MV)} (hn:Nat.ble es.length 1000=true) (h:ajw S g d pos es m):aj5 S g d (.List es pos) (aqi m):=aj5.listD h (Nat.le_trans (Nat.le_of_ble_eq_true hn) (by decide))
theorem aJB {x:Str}{np cpos pos:Pos}{es:List Expr}{X N I:String}{ma:M (List MV)} (hn:aZ2 S x (.type X)) (hc:ExcClass X N I) (h:bJx g x es=true) (ha:ajw S g d cpos es ma) :
  aj9 S g d (.Raise (some (.Call (.Name x np) es [] cpos)) none pos) (bzK ma (.type X)):=let ⟨h1,h2⟩:=bzs h;aj9.raiseB (NmB hn h1) hc h2 ha
theorem l1_ {pos:Pos}{e:Expr}{me:M MV} (hs:ajr e=true) (he:aj5 S g d e me):ajw S g d pos [e] (aj0 me (ret [])):=ajw.cons he ajw.nil hs
theorem l2_ {pos:Pos}{e e':Expr}{me me':M MV} (hs:(ajr e && ajr e')=true) (he:aj5 S g d e me) (he':aj5 S g d e' me'):ajw S g d pos [e,e'] (aj0 me (aj0 me' (ret []))):=by
 rw [Bool.and_eq_true] at hs
 exact ajw.cons he (ajw.cons he' ajw.nil hs.2) hs.1
theorem akq {o i:Expr}{pos:Pos}{mo mi:M MV} (hns:aZp i=true) (ho:aj5 S g d o mo) (hi:aj5 S g d i mi):aj5 S g d (.Subscript o i pos) (ajs mo mi ajG):=aj5.item ho hi hns
noncomputable def fnB (s:Stmt) (nm:List Str) (n:Nat):Bool:=
 decide ((ajd s).kind = .function) && !(ajd s).isCoroutine && !(ajd s).isGenerator && (ajd s).names.all (fun x=>decide (x.2≠.cell)) && decide nm.Nodup && Nat.ble n nm.length && (nm.take n).all fun x=>decide ((ajd s).names.lookup x=some .local)
theorem fn_ (X:PF S) {s:Stmt}{q:Str}{dV:Value}{pm:Str}{t:Nat}{cd:Addr} (a:Addr) (nm:List Str) (n:Nat) {dv:List MV}{dvs:List Value}{mb:M MF}{co:Option Value}
  (ho:∀ P,(KK P).lookup a=some (fnO s q dV pm t cd)) (hcd:∀ P,codeIn (KK P) (.ref cd) q=true) (h:fnB s nm (n + dv.length)=true)
  (hb:∀ (us:List Value),us.length=n→∀ s':Shared,S.K.In s'.heap→BindsTo s' { name:=bkQ s,qualname:=q,params:=bkR s,body:=.stmts (aja s),scope:=ajd s,globals:=3,closure:=[],defaults:=dV,kwdefaults:=.none,pyModule:=.str pm t,code:=.ref cd } ⟨us,[]⟩ ((nm.take (n + dv.length)).zip (us++dvs)))
  (hdv:∀ W,VRs S.w.params S.C W dv dvs) (hs:aj1 S ⟨ajd s,nm,co⟩ d (aja s) mb) (hc:∀ c,co=some c→Value.ref cd=c):aj2 S (d + 1) (.ref a) (fun as=>gE as n (aQj nm.length mb (as++dv))):=by
 unfold fnB at h
 simp only [Bool.and_eq_true,decide_eq_true_eq,Bool.not_eq_true',List.all_eq_true] at h
 obtain ⟨⟨⟨⟨⟨⟨h1,h2⟩,h3⟩,h4⟩,h5⟩,h6⟩,h7⟩:=h
 exact aj2.fn (a:=a) (g':=⟨ajd s,nm,co⟩) (n:=n) (dv:=dv) (dvs:=dvs) (by rw [X.k];exact ho _) (by rw [X.k];exact hcd _) rfl rfl h1 h2 h3 h4 rfl rfl rfl h5 (Nat.le_of_ble_eq_true h6) hb hdv h7 hs hc
end Mine
end
section
namespace Mine
open PySem PySem.W PyProof.Rows PySem.Calls
variable {S:ajA}{g:Sig}{d:Nat}
theorem aVA (X:PF S):aQr S "_digit" 41:=⟨avp X _ _ (fun P=>by kernel_rfl),.inr (.inr ⟨41,_,_,rfl,by rw [X.k];rfl,rfl⟩)⟩
theorem aXS (X:PF S):aQr S "unhexlify" 46:=⟨avp X _ _ (fun P=>by kernel_rfl),.inr (.inr ⟨46,_,_,rfl,by rw [X.k];rfl,rfl⟩)⟩
theorem bjn (X:PF S):aQr S "ObjectID" 53:=⟨avp X _ _ (fun P=>by kernel_rfl),.inr (.inr ⟨53,_,_,rfl,by rw [X.k];rfl,rfl⟩)⟩
theorem aQp (X:PF S):aQr S "valid_hexsha" 60:=⟨avp X _ _ (fun P=>by kernel_rfl),.inr (.inr ⟨60,_,_,rfl,by rw [X.k];rfl,rfl⟩)⟩
theorem aXX (X:PF S):aQr S "Ref" 67:=⟨avp X _ _ (fun P=>by kernel_rfl),.inr (.inr ⟨67,_,_,rfl,by rw [X.k];rfl,rfl⟩)⟩
theorem azc (X:PF S):aQr S "parse_symref_value" 94:=⟨avp X _ _ (fun P=>by kernel_rfl),.inr (.inr ⟨94,_,_,rfl,by rw [X.k];rfl,rfl⟩)⟩
theorem aqM (X:PF S):aQr S "check_ref_format" 101:=⟨avp X _ _ (fun P=>by kernel_rfl),.inr (.inr ⟨101,_,_,rfl,by rw [X.k];rfl,rfl⟩)⟩
theorem axT (X:PF S):aQr S "_collapse_slashes" 108:=⟨avp X _ _ (fun P=>by kernel_rfl),.inr (.inr ⟨108,_,_,rfl,by rw [X.k];rfl,rfl⟩)⟩
theorem aJ6 (X:PF S):aQr S "_law_names" 290:=⟨avp X _ _ (fun P=>by kernel_rfl),.inr (.inr ⟨290,_,_,rfl,by rw [X.k];rfl,rfl⟩)⟩
theorem aZS (X:PF S):aQr S "_law_fronts" 297:=⟨avp X _ _ (fun P=>by kernel_rfl),.inr (.inr ⟨297,_,_,rfl,by rw [X.k];rfl,rfl⟩)⟩
theorem akB (X:PF S):aQr S "_law_pieces" 304:=⟨avp X _ _ (fun P=>by kernel_rfl),.inr (.inr ⟨304,_,_,rfl,by rw [X.k];rfl,rfl⟩)⟩
theorem akA (X:PF S):aQr S "_law_values" 311:=⟨avp X _ _ (fun P=>by kernel_rfl),.inr (.inr ⟨311,_,_,rfl,by rw [X.k];rfl,rfl⟩)⟩
theorem aJ7 (X:PF S):aQr S "_law_named" 318:=⟨avp X _ _ (fun P=>by kernel_rfl),.inr (.inr ⟨318,_,_,rfl,by rw [X.k];rfl,rfl⟩)⟩
theorem aJ5 (X:PF S):aQr S "_law_right" 325:=⟨avp X _ _ (fun P=>by kernel_rfl),.inr (.inr ⟨325,_,_,rfl,by rw [X.k];rfl,rfl⟩)⟩
theorem axS (X:PF S):aQr S "_law_walk" 332:=⟨avp X _ _ (fun P=>by kernel_rfl),.inr (.inr ⟨332,_,_,rfl,by rw [X.k];rfl,rfl⟩)⟩
theorem aQ2 (X:PF S):aQr S "_law_with" 339:=⟨avp X _ _ (fun P=>by kernel_rfl),.inr (.inr ⟨339,_,_,rfl,by rw [X.k];rfl,rfl⟩)⟩
theorem bjm (X:PF S):aQr S "_law_due" 346:=⟨avp X _ _ (fun P=>by kernel_rfl),.inr (.inr ⟨346,_,_,rfl,by rw [X.k];rfl,rfl⟩)⟩
theorem aXV (X:PF S):aQr S "_law_told" 353:=⟨avp X _ _ (fun P=>by kernel_rfl),.inr (.inr ⟨353,_,_,rfl,by rw [X.k];rfl,rfl⟩)⟩
theorem aKT (X:PF S):aQr S "_law_under" 358:=⟨avp X _ _ (fun P=>by kernel_rfl),.inr (.inr ⟨358,_,_,rfl,by rw [X.k];rfl,rfl⟩)⟩
theorem aQ3 (X:PF S):aQr S "_law_ends" 365:=⟨avp X _ _ (fun P=>by kernel_rfl),.inr (.inr ⟨365,_,_,rfl,by rw [X.k];rfl,rfl⟩)⟩
theorem bzx (X:PF S):akD S "keys" 123:=⟨by rw [X.k,X.c];kernel_rfl,by rw [X.k];kernel_rfl,by decide,by decide,.inr (.inr ⟨123,_,_,rfl,by rw [X.k];rfl,rfl⟩)⟩
theorem bzw (X:PF S):akD S "subkeys" 130:=⟨by rw [X.k,X.c];kernel_rfl,by rw [X.k];kernel_rfl,by decide,by decide,.inr (.inr ⟨130,_,_,rfl,by rw [X.k];rfl,rfl⟩)⟩
theorem aKR (X:PF S):akD S "as_dict" 138:=⟨by rw [X.k,X.c];kernel_rfl,by rw [X.k];kernel_rfl,by decide,by decide,.inr (.inr ⟨138,_,_,rfl,by rw [X.k];rfl,rfl⟩)⟩
theorem aJk (X:PF S):akD S "_check_refname" 145:=⟨by rw [X.k,X.c];kernel_rfl,by rw [X.k];kernel_rfl,by decide,by decide,.inr (.inr ⟨145,_,_,rfl,by rw [X.k];rfl,rfl⟩)⟩
theorem aqN (X:PF S):akD S "_check_ref_value" 152:=⟨by rw [X.k,X.c];kernel_rfl,by rw [X.k];kernel_rfl,by decide,by decide,.inr (.inr ⟨152,_,_,rfl,by rw [X.k];rfl,rfl⟩)⟩
theorem avO (X:PF S):akD S "read_ref" 159:=⟨by rw [X.k,X.c];kernel_rfl,by rw [X.k];kernel_rfl,by decide,by decide,.inr (.inr ⟨159,_,_,rfl,by rw [X.k];rfl,rfl⟩)⟩
theorem aZR (X:PF S):akD S "follow" 166:=⟨by rw [X.k,X.c];kernel_rfl,by rw [X.k];kernel_rfl,by decide,by decide,.inr (.inr ⟨166,_,_,rfl,by rw [X.k];rfl,rfl⟩)⟩
theorem axG (X:PF S):akD S "__contains__" 173:=⟨by rw [X.k,X.c];kernel_rfl,by rw [X.k];kernel_rfl,by decide,by decide,.inr (.inr ⟨173,_,_,rfl,by rw [X.k];rfl,rfl⟩)⟩
theorem avn (X:PF S):akD S "__getitem__" 180:=⟨by rw [X.k,X.c];kernel_rfl,by rw [X.k];kernel_rfl,by decide,by decide,.inr (.inr ⟨180,_,_,rfl,by rw [X.k];rfl,rfl⟩)⟩
theorem avm (X:PF S):akD S "__setitem__" 187:=⟨by rw [X.k,X.c];kernel_rfl,by rw [X.k];kernel_rfl,by decide,by decide,.inr (.inr ⟨187,_,_,rfl,by rw [X.k];rfl,rfl⟩)⟩
theorem aZQ (X:PF S):akD S "get_symrefs" 201:=⟨by rw [X.k,X.c];kernel_rfl,by rw [X.k];kernel_rfl,by decide,by decide,.inr (.inr ⟨201,_,_,rfl,by rw [X.k];rfl,rfl⟩)⟩
theorem avl (X:PF S):akD S "allkeys" 229:=⟨by rw [X.k,X.c];kernel_rfl,by rw [X.k];kernel_rfl,by decide,by decide,.inr (.inr ⟨229,_,_,rfl,by rw [X.k];rfl,rfl⟩)⟩
theorem aJj (X:PF S):akD S "read_loose_ref" 236:=⟨by rw [X.k,X.c];kernel_rfl,by rw [X.k];kernel_rfl,by decide,by decide,.inr (.inr ⟨236,_,_,rfl,by rw [X.k];rfl,rfl⟩)⟩
theorem avP (X:PF S):akD S "get_packed_refs" 243:=⟨by rw [X.k,X.c];kernel_rfl,by rw [X.k];kernel_rfl,by decide,by decide,.inr (.inr ⟨243,_,_,rfl,by rw [X.k];rfl,rfl⟩)⟩
theorem avi (X:PF S):akD S "set_symbolic_ref" 250:=⟨by rw [X.k,X.c];kernel_rfl,by rw [X.k];kernel_rfl,by decide,by decide,.inr (.inr ⟨250,_,_,rfl,by rw [X.k];rfl,rfl⟩)⟩
theorem axk (X:PF S):akD S "set_if_equals" 257:=⟨by rw [X.k,X.c];kernel_rfl,by rw [X.k];kernel_rfl,by decide,by decide,.inr (.inr ⟨257,_,_,rfl,by rw [X.k];rfl,rfl⟩)⟩
theorem aKS (X:PF S):akD S "add_if_new" 264:=⟨by rw [X.k,X.c];kernel_rfl,by rw [X.k];kernel_rfl,by decide,by decide,.inr (.inr ⟨264,_,_,rfl,by rw [X.k];rfl,rfl⟩)⟩
theorem avj (X:PF S):akD S "remove_if_equals" 271:=⟨by rw [X.k,X.c];kernel_rfl,by rw [X.k];kernel_rfl,by decide,by decide,.inr (.inr ⟨271,_,_,rfl,by rw [X.k];rfl,rfl⟩)⟩
theorem aZ1 (X:PF S):S.mg "ZERO_SHA" = some (.bytes ((List.replicate 40 48):List UInt8).toArray 238):=avp X _ _ (fun P=>by kernel_rfl)
theorem bzA (X:PF S):S.mg "HEADREF" = some (.bytes ([72,69,65,68]:List UInt8).toArray 249):=avp X _ _ (fun P=>by kernel_rfl)
theorem akC (X:PF S):S.mg "SYMREF" = some (.bytes ([114,101,102,58,32]:List UInt8).toArray 251):=avp X _ _ (fun P=>by kernel_rfl)
theorem aQ4 (X:PF S):S.mg "BAD_REF_CHARS" = some (.bytes ([127,32,126,94,58,63,42,91]:List UInt8).toArray 253):=avp X _ _ (fun P=>by kernel_rfl)
theorem axm (X:PF S):S.mg "SymrefLoop" = some (.ref 84):=avp X _ _ (fun P=>by kernel_rfl)
theorem az8 (X:PF S):S.mg "RefFormatError" = some (.ref 31):=avp X _ _ (fun P=>by kernel_rfl)
theorem axU (X:PF S):S.mg "DictRefsContainer" = some (.ref 281):=avp X _ _ (fun P=>by kernel_rfl)
theorem aQq (X:PF S):aZ2 S "len" (.builtin "len"):=bja X (fun P=>by kernel_rfl) (by kernel_rfl) TT
theorem bKG (X:PF S):aZ2 S "ord" (.builtin "ord"):=bja X (fun P=>by kernel_rfl) (by kernel_rfl) TT
theorem axl (X:PF S):aZ2 S "isinstance" (.builtin "isinstance"):=bja X (fun P=>by kernel_rfl) (by kernel_rfl) TT
theorem avk (X:PF S):aZ2 S "divmod" (.builtin "divmod"):=bja X (fun P=>by kernel_rfl) (by kernel_rfl) TT
theorem axt (X:PF S):aZ2 S "sorted" (.builtin "sorted"):=bja X (fun P=>by kernel_rfl) (by kernel_rfl) TT
theorem bzy (X:PF S):aZ2 S "bytes" (.type "bytes"):=bja X (fun P=>by kernel_rfl) (by kernel_rfl) TT
theorem bZe (X:PF S):aZ2 S "set" (.type "set"):=bja X (fun P=>by kernel_rfl) (by kernel_rfl) TT
theorem bzz (X:PF S):aZ2 S "bool" (.type "bool"):=bja X (fun P=>by kernel_rfl) (by kernel_rfl) TT
theorem aXT (X:PF S):aZ2 S "range" (.type "range"):=bja X (fun P=>by kernel_rfl) (by kernel_rfl) TT
theorem aXU (X:PF S):aZ2 S "enumerate" (.type "enumerate"):=bja X (fun P=>by kernel_rfl) (by kernel_rfl) TT
theorem ajR (X:PF S):aZ2 S "ValueError" (.type "ValueError"):=bja X (fun P=>by kernel_rfl) (by kernel_rfl) TT
theorem axu (X:PF S):aZ2 S "KeyError" (.type "KeyError"):=bja X (fun P=>by kernel_rfl) (by kernel_rfl) TT
theorem aXW (X:PF S):aZ2 S "TypeError" (.type "TypeError"):=bja X (fun P=>by kernel_rfl) (by kernel_rfl) TT
theorem bxE (X:PF S) {o i:Expr}{pos:Pos}{mo mi:M MV}{mc:List MV→M MV}{d':Nat} (ho:aj5 S g (d + 1) o mo) (hi:aj5 S g (d + 1) i mi) (hc:aj2 S d' (.ref 180) mc) (hd:Nat.ble d' d=true)
  (hsl:∀ x i',subscripted i true x i'=runValue (.builtin "lifetime.subscript" ⟨[x,i'],[]⟩)):aj5 S g (d + 1) (.Subscript o i pos) (ajs mo mi (aQM mc)):=
 aj5.itemR X.refs (avn X).fi (by rw [X.k];kernel_rfl) (avn X).ty ho hi (hc.le (Nat.le_of_ble_eq_true hd)) hsl
theorem bZI (X:PF S) {mc:List MV→M MV}{d':Nat} (hc:aj2 S d' (.ref 187) mc) (hd:Nat.ble d' d=true):azb S d setItem (bkq mc):=azb.setR X.refs (avm X).fi (avm X).ty (hc.le (Nat.le_of_ble_eq_true hd))
theorem inR_ (X:PF S) {mc:List MV→M MV}{d':Nat} (hc:aj2 S d' (.ref 173) mc) (hd:Nat.ble d' d=true):aj4 S d (compareOp .In) (bZm mc aj3):=aj4.inR X.refs (axG X).fi (axG X).ty (hc.le (Nat.le_of_ble_eq_true hd)) TB.truth
theorem bzO {es:List Expr}{k:Nat}{tp:Pos}{v:Expr}{names:List Str} (h:∀ e:Env,swappedStores [Expr.Tuple es k tp] v { e with scope:=g.sc }=pure (some names)) (env:Env) (he:env.scope=g.sc):swappedStores [Expr.Tuple es k tp] v env=pure (some names):=by
 have z:=h env
 rw [← he] at z
 exact z
noncomputable abbrev bZx (m m':M MV):M MV:=bnd m fun a=>bnd (aj3 a) fun t=>cond t m' (ret a)
noncomputable abbrev orV (m m':M MV):M MV:=bnd m fun a=>bnd (aj3 a) fun t=>cond t (ret a) m'
noncomputable abbrev aKU (m:M Bool):M Bool:=bnd m fun b=>ret !b
noncomputable abbrev bXa (k:Nat) (m:M MV):M MF:=bnd (getL k) fun a=>bnd m fun b=>bnd (bkt a b) fun c=>bnd (ajD k c) fun _=>ret .next
noncomputable abbrev bKx (me:M MV) (mt:MV→M Unit) (mb:M MF):M MF:=bnd me fun a st Q E=>match a with | .bytes b=>aqu (aXE b) mt mb st Q E | _=>False
theorem aXu {α : Type}{us:List α} (h:us.length=1):∃ a,us=[a]:=List.length_eq_one_iff.mp h
theorem bQG {α : Type}{us:List α}{n:Nat} (h:us.length=n + 1):∃ a r,us=a::r∧r.length=n:=by
 cases us with
 | nil=>cases h
 | cons a r=>exact ⟨a,r,rfl,Nat.succ.inj h⟩
theorem aXt {α : Type}{us:List α} (h:us.length=2):∃ a b,us=[a,b]:=let ⟨a,_,e,h'⟩:=bQG h;let ⟨b,e'⟩:=aXu h';⟨a,b,by rw [e,e']⟩
theorem bJB {α : Type}{us:List α} (h:us.length=3):∃ a b c,us=[a,b,c]:=let ⟨a,_,e,h'⟩:=bQG h;let ⟨b,c,e'⟩:=aXt h';⟨a,b,c,by rw [e,e']⟩
theorem bKV {α : Type}{us:List α} (h:us.length=4):∃ a b c d,us=[a,b,c,d]:=let ⟨a,_,e,h'⟩:=bQG h;let ⟨b,c,d,e'⟩:=bJB h';⟨a,b,c,d,by rw [e,e']⟩
theorem len5 {α : Type}{us:List α} (h:us.length=5):∃ a b c d e,us=[a,b,c,d,e]:=let ⟨a,_,e,h'⟩:=bQG h;let ⟨b,c,d,f,e'⟩:=bKV h';⟨a,b,c,d,f,by rw [e,e']⟩
theorem bKU {α : Type}{us:List α} (h:us.length=6):∃ a b c d e f,us=[a,b,c,d,e,f]:=let ⟨a,_,e,h'⟩:=bQG h;let ⟨b,c,d,f,g,e'⟩:=len5 h';⟨a,b,c,d,f,g,by rw [e,e']⟩
end Mine
end
section
namespace Mine
open PySem PySem.W PyProof.Rows PySem.Calls
variable {S:ajA}{g:Sig}{d:Nat}
noncomputable def bZL (scope gsc:Scope):Scope:={ scope with names:=scope.names.map fun (n,k)=>if (k == .free && gsc.kind == .function && gsc.names.lookup n == some .cell) then (n,.cell) else (n,k) }
theorem bkZ {scope:Scope}{env:Env}{a0 a1 a2 c:Str}{k0 k1 k2:NameKind}{a:Addr} (hn:scope.names=[(a0,k0),(a1,k1),(a2,k2),(c,.free)]) (h0:(k0 == .free)=false) (h1:(k1 == .free)=false) (h2:(k2 == .free)=false)
  (hc:env.cells.lookup c=some a):closureFor scope env=pure [(c,a)]:=by
 unfold closureFor
 rw [hn]
 have hf:(NameKind.free == NameKind.free)=true:=rfl
 simp only [List.forIn_cons,List.forIn_nil,h0,h1,h2,hf,Bool.false_eq_true,if_false,if_true,cellOf,hc,pure_bind]
noncomputable def aVh (c:Str):List (Str×NameKind)→Bool
 | [x,y,z,w]=>!(x.2 == .free) && !(y.2 == .free) && !(z.2 == .free) && decide (w=(c,.free))
 | _=>false
theorem bj0 {c:Str}{l:List (Str×NameKind)} (h:aVh c l=true):∃ a0 a1 a2 k0 k1 k2,l=[(a0,k0),(a1,k1),(a2,k2),(c,.free)]∧(k0 == .free)=false∧(k1 == .free)=false∧(k2 == .free)=false:=by
 rcases l with _ | ⟨⟨a0,k0⟩,_ | ⟨⟨a1,k1⟩,_ | ⟨⟨a2,k2⟩,_ | ⟨w,_ | ⟨v,r⟩⟩⟩⟩⟩
 ·cases h
 ·cases h
 ·cases h
 ·cases h
 ·have h':(!(k0 == .free) && !(k1 == .free) && !(k2 == .free) && decide (w=(c,.free)))=true:=h
  simp only [Bool.and_eq_true,Bool.not_eq_true',decide_eq_true_eq] at h'
  obtain ⟨⟨⟨q0,q1⟩,q2⟩,rfl⟩:=h'
  exact ⟨_,_,_,_,_,_,rfl,q0,q1,q2⟩
 ·cases h
noncomputable def bX7 (g:Sig) (scope:Scope) (k:Nat) (c x:Str):Bool:=
 decide (scope.kind = .function) && scope.names.all (fun y=>decide (y.2≠.local) || decide (scope.names.lookup y.1=some .local)) && scope.names.all (fun y=>decide (y.2≠.cell)) &&
 decide (g.nm[k]? = some c) && decide (g.sc.names.lookup c=some .cell) && decide ((bZL scope g.sc).names.lookup c=some .cell) && decide (x≠c) && aVh c scope.names
theorem bX6 {scope:Scope}{k:Nat}{c x:Str} (h:bX7 g scope k c x=true):bXh g ⟨bZL scope g.sc,[x,c],none⟩ scope [(k,c)]:=by
 unfold bX7 at h
 simp only [Bool.and_eq_true,decide_eq_true_eq,List.all_eq_true,Bool.or_eq_true] at h
 obtain ⟨⟨⟨⟨⟨⟨⟨h1,h2⟩,h3⟩,h4⟩,h5⟩,h6⟩,h7⟩,h8⟩:=h
 refine ⟨h1,fun y hy e=>(h2 y hy).resolve_left (fun z=>z e),h3,fun env he=>?_,fun z hz=>?_,⟨x,rfl⟩,?_,rfl,fun env hc=>?_⟩
 ·unfold relabel bZL Env.kindOf
  rw [he]
 ·rw [List.mem_singleton.mp hz]
  exact ⟨h4,h5,h6⟩
 ·exact List.nodup_cons.mpr ⟨by rw [List.mem_singleton];exact h7,List.nodup_cons.mpr ⟨List.not_mem_nil,List.nodup_nil⟩⟩
 ·obtain ⟨a,ha⟩:=hc _ (.head _)
  refine akZ (bj0 h8) fun a0 a1 a2 k0 k1 r8_=>?_;revert r8_;refine bxq fun k2 heq q0 q1 q2=>?_
  refine ⟨_,bkZ heq q0 q1 q2 ha,fun z hz=>?_⟩
  rw [List.mem_singleton.mp hz]
  show ([(c,a)]:List (Str×Addr)).lookup c=env.cells.lookup c
  rw [ha]
  simp [List.lookup]
noncomputable def bzf (names:List (Str×NameKind)) (x:Str):Bool:=decide (names.lookup x=some .local) || (decide (names.lookup x=some .cell) && names.any fun y=>decide (y.1=x) && decide (y.2 = .cell))
theorem aku:∀ (names:List (Str×NameKind)) (q:Nat) (acc:List (Str×Addr)) (x:Str),((acc.lookup x).isSome∨names.any (fun y=>decide (y.1=x) && decide (y.2 = .cell))=true)→∃ c,(cellsFrom q names acc).lookup x=some c
 | [],q,acc,x,h=>by
  rcases h with h | h
  ·exact Option.isSome_iff_exists.mp h
  ·simp at h
 | (n,k)::r,q,acc,x,h=>by
  unfold cellsFrom
  split
  ·rename_i hk
   refine aku r _ _ x ?_
   rcases h with h | h
   ·left
    rw [List.lookup_cons]
    split
    ·rfl
    ·exact h
   ·rw [List.any_cons,Bool.or_eq_true] at h
    rcases h with h | h
    ·left
     simp only [Bool.and_eq_true,decide_eq_true_eq] at h
     rw [List.lookup_cons,h.1]
     simp
    ·exact .inr h
  ·rename_i hk
   refine aku r _ _ x ?_
   rcases h with h | h
   ·exact .inl h
   ·rw [List.any_cons,Bool.or_eq_true] at h
    rcases h with h | h
    ·simp only [Bool.and_eq_true,decide_eq_true_eq] at h
     rw [h.2] at hk
     exact absurd rfl hk
    ·exact .inr h
theorem bJj {names:List (Str×NameKind)}{ns:List Str} (h:ns.all (bzf names)=true) (q:Nat):∀ x∈ns,names.lookup x=some .local∨(names.lookup x=some .cell∧∃ c,(cellsFrom q names []).lookup x=some c):=fun x hx=>by
 have:=List.all_eq_true.mp h x hx
 unfold bzf at this
 simp only [Bool.or_eq_true,Bool.and_eq_true,decide_eq_true_eq] at this
 exact this.imp id fun z=>⟨z.1,aku _ _ _ _ (.inr z.2)⟩
noncomputable def bX1 (s:Stmt) (nm:List Str) (n:Nat):Bool:=
 decide ((ajd s).kind = .function) && !(ajd s).isCoroutine && !(ajd s).isGenerator && decide nm.Nodup && Nat.ble n nm.length && (nm.take n).all (bzf (ajd s).names)
theorem bX0 (X:PF S) {s:Stmt}{q:Str}{dV:Value}{pm:Str}{t:Nat}{cd:Addr} (a:Addr) (nm:List Str) (n:Nat) {mb:M MF}
  (ho:∀ P,(KK P).lookup a=some (fnO s q dV pm t cd)) (hcd:∀ P,codeIn (KK P) (.ref cd) q=true) (h:bX1 s nm n=true)
  (hb:∀ (us:List Value),us.length=n→bindArgs { name:=bkQ s,qualname:=q,params:=bkR s,body:=.stmts (aja s),scope:=ajd s,globals:=3,closure:=[],defaults:=dV,kwdefaults:=.none,pyModule:=.str pm t,code:=.ref cd } ⟨us,[]⟩=pure ((nm.take n).zip us))
  (hs:aj1 S ⟨ajd s,nm,none⟩ d (aja s) mb):aj2 S (d + 1) (.ref a) (fun as=>gE as n (aQj nm.length mb as)):=by
 unfold bX1 at h
 simp only [Bool.and_eq_true,decide_eq_true_eq,Bool.not_eq_true'] at h
 obtain ⟨⟨⟨⟨⟨h1,h2⟩,h3⟩,h5⟩,h6⟩,h7⟩:=h
 exact aj2.fnC (a:=a) (g':=⟨ajd s,nm,none⟩) (n:=n) (by rw [X.k];exact ho _) (by rw [X.k];exact hcd _) rfl rfl h1 h2 h3 rfl rfl rfl h5 (Nat.le_of_ble_eq_true h6) hb (fun q=>bJj h7 q) hs
noncomputable def bk0:Stmt→Option Expr
 | .Return v _=>v
 | _=>none
noncomputable def bxN (e:Expr):Option (List Expr):=cond ((aJT e).1 == 2) (some (aJT e).2.1) none
theorem bvj {s:Stmt}{e:Expr} (h:bk0 s=some e):∃ p,s = .Return (some e) p:=by
 have z:(bk0 s).elim True fun e=>∃ p,s = .Return (some e) p:=by
  cases s<;>first | exact trivial | skip
  rename_i v p
  cases v with
  | none=>exact trivial
  | some e=>exact ⟨p,rfl⟩
 rw [h] at z;exact z
theorem bkS {e:Expr}{es:List Expr} (h:bxN e=some es):∃ p,e = .List es p:=by
 have z:=bz6 e
 rw [(aZm h).1] at z
 rw [← (aZm h).2];exact z
noncomputable def bvK:List Stmt→Option (List (List UInt8))
 | [s]=>(bk0 s).bind fun e=>(bxN e).bind fun es=>cond (Nat.ble es.length 1000) (bzi es) none
 | _=>none
theorem aXG {b:List Stmt}{bs:List (List UInt8)} (h:bvK b=some bs):aj1 S g d b (aju (aqi (ret (bs.map MV.bytes)))):=by
 rcases b with _ | ⟨s,_ | ⟨t,r⟩⟩
 ·cases h
 ·refine ajl (Option.bind_eq_some_iff.mp (show (bk0 s).bind _=_ from h)) fun e h1 h2=>?_
  refine ajl (Option.bind_eq_some_iff.mp h2) fun es h3 h4=>?_
  obtain ⟨p,rfl⟩:=bvj h1
  obtain ⟨q,rfl⟩:=bkS h3
  cases hn:Nat.ble es.length 1000 with
  | false=>rw [hn] at h4;cases h4
  | true=>rw [hn] at h4;exact aj1.last (aj9.ret1 (azw hn (ajw.consts h4)))
 ·cases h
end Mine
end
section
namespace Mine
open PySem PySem.W PyProof.Rows PySem.Calls
variable {S:ajA}{g:Sig}{d:Nat}
noncomputable def aXm:M MF:=
 (ajc (ifM (bJi (ret (MV.int 48)) (getL 0) (ret (MV.int 57)) mLe mLe aj3 aj3) (aju (ajs (getL 0) (ret (MV.int 48)) bvE)) (ret MF.next))
 (ajc (ifM (bJi (ret (MV.int 65)) (getL 0) (ret (MV.int 70)) mLe mLe aj3 aj3) (aju (ajs (getL 0) (ret (MV.int 55)) bvE)) (ret MF.next))
 (ajc (ifM (bJi (ret (MV.int 97)) (getL 0) (ret (MV.int 102)) mLe mLe aj3 aj3) (aju (ajs (getL 0) (ret (MV.int 87)) bvE)) (ret MF.next))
 (bzK (aj0 (ret (MV.str "Non-hexadecimal digit found")) (ret [])) (.type "ValueError")))))
noncomputable def azG:List MV→M MV:=fnM 1 1 aXm
set_option maxHeartbeats 2000000 in
theorem bJp (X:PF S):aj1 S ⟨ajd (atS top 4),["octet"],none⟩ 0 (aja (atS top 4)) aXm:=by
 refine aj1.cons ?_ ?_
 ·refine aj9.ife ?_ ?_ aj1.nil
  ·exact ajf.cmp2 aj5.cInt (aj6 0 TT) aj5.cInt aj4.le' aj4.le' TB.truth TB.truth (Eq.refl false)
  refine aj1.last ?_
  refine aj9.ret1 ?_
  exact aj5.bin (aj6 0 TT) aj5.cInt aj4.sub
 refine aj1.cons ?_ ?_
 ·refine aj9.ife ?_ ?_ aj1.nil
  ·exact ajf.cmp2 aj5.cInt (aj6 0 TT) aj5.cInt aj4.le' aj4.le' TB.truth TB.truth (Eq.refl false)
  refine aj1.last ?_
  refine aj9.ret1 ?_
  exact aj5.bin (aj6 0 TT) aj5.cInt aj4.sub
 refine aj1.cons ?_ ?_
 ·refine aj9.ife ?_ ?_ aj1.nil
  ·exact ajf.cmp2 aj5.cInt (aj6 0 TT) aj5.cInt aj4.le' aj4.le' TB.truth TB.truth (Eq.refl false)
  refine aj1.last ?_
  refine aj9.ret1 ?_
  exact aj5.bin (aj6 0 TT) aj5.cInt aj4.sub
 refine aj1.last ?_
 refine aJB (ajR X) excClass_ValueError TT ?_
 exact l1_ TT aj5.cStr
theorem bjP (X:PF S):aj2 S 1 (.ref 41) azG:=by
 have hb:=bJp X
 refine fn_ X (s:=(atS top 4)) 41 ["octet"] 1 (q:="_digit") (dV:=.none) (pm:="dulwich.objects") (t:=216) (cd:=40) (dv:=[]) (dvs:=[]) (fun P=>by kernel_rfl) (fun P=>by kernel_rfl) (by kernel_rfl) (fun us hu s hs=>?_) (fun W=>by rfl) hb (fun c e=>nomatch e)
 obtain ⟨u0,rfl⟩:=aXu hu
 exact BindsTo.of_eq (by kernel_rfl)
noncomputable def bvC:M MF:=
 (aju (getL 0))
noncomputable def azI:List MV→M MV:=fnM 1 1 bvC
set_option maxHeartbeats 2000000 in
theorem bKD (X:PF S):aj1 S ⟨ajd (atS top 13),["octets"],none⟩ 0 (aja (atS top 13)) bvC:=by
 refine aj1.last ?_
 exact aj9.ret1 (aj6 0 TT)
theorem aX5 (X:PF S):aj2 S 1 (.ref 67) azI:=by
 have hb:=bKD X
 refine fn_ X (s:=(atS top 13)) 67 ["octets"] 1 (q:="Ref") (dV:=.none) (pm:="dulwich.refs") (t:=247) (cd:=66) (dv:=[]) (dvs:=[]) (fun P=>by kernel_rfl) (fun P=>by kernel_rfl) (by kernel_rfl) (fun us hu s hs=>?_) (fun W=>by rfl) hb (fun c e=>nomatch e)
 obtain ⟨u0,rfl⟩:=aXu hu
 exact BindsTo.of_eq (by kernel_rfl)
noncomputable def avD:M MF:=
 (aju (getL 0))
noncomputable def akm:List MV→M MV:=fnM 1 1 avD
set_option maxHeartbeats 2000000 in
theorem bjk (X:PF S):aj1 S ⟨ajd (atS top 6),["octets"],none⟩ 0 (aja (atS top 6)) avD:=by
 refine aj1.last ?_
 exact aj9.ret1 (aj6 0 TT)
theorem aVM (X:PF S):aj2 S 1 (.ref 53) akm:=by
 have hb:=bjk X
 refine fn_ X (s:=(atS top 6)) 53 ["octets"] 1 (q:="ObjectID") (dV:=.none) (pm:="dulwich.objects") (t:=216) (cd:=52) (dv:=[]) (dvs:=[]) (fun P=>by kernel_rfl) (fun P=>by kernel_rfl) (by kernel_rfl) (fun us hu s hs=>?_) (fun W=>by rfl) hb (fun c e=>nomatch e)
 obtain ⟨u0,rfl⟩:=aXu hu
 exact BindsTo.of_eq (by kernel_rfl)
noncomputable def aqh:M MF:=
 (ajc (ifM (bnd (ajk aqz (getL 0) (aj0 (ret (MV.bytes [114,101,102,58,32])) (ret [])) azt) aj3) (aju (ajk aqz (aje (getL 0) (bnd (aj0 (ret (MV.bytes [114,101,102,58,32])) (ret [])) aQL) (ret MV.none)) (aj0 (ret (MV.bytes [13,10])) (ret [])) aZu)) (ret MF.next))
 (bzK (aj0 (getL 0) (ret [])) (.type "ValueError")))
noncomputable def ajm:List MV→M MV:=fnM 1 1 aqh
set_option maxHeartbeats 2000000 in
theorem axA (X:PF S):aj1 S ⟨ajd (atS top 15),["contents"],none⟩ 0 (aja (atS top 15)) aqh:=by
 refine aj1.cons ?_ ?_
 ·refine aj9.ife ?_ ?_ aj1.nil
  ·refine ajf.val ?_ TB.truth (fun _ _=>rfl)
   refine ajQ (ajH.bytes FB.slot_bytes_startswith FB.type_bytes_startswith) aj2.starts TT (aj6 0 TT) ?_
   exact l1_ TT (bqT (akC X) TT)
  refine aj1.last ?_
  refine aj9.ret1 ?_
  refine ajQ (ajH.bytes BF.slot_rstrip BF.type_rstrip) aj2.rstrip TT ?_ ?_
  ·refine aj5.slice (aj6 0 TT) ?_ aqB.none
   refine aqB.some ?_
   refine az6 (aQq X) TT ?_ aj2.len
   exact l1_ TT (bqT (akC X) TT)
  exact l1_ TT aj5.cBytes
 refine aj1.last ?_
 refine aJB (ajR X) excClass_ValueError TT ?_
 exact l1_ TT (aj6 0 TT)
theorem aza (X:PF S):aj2 S 1 (.ref 94) ajm:=by
 have hb:=axA X
 refine fn_ X (s:=(atS top 15)) 94 ["contents"] 1 (q:="parse_symref_value") (dV:=.none) (pm:="dulwich.refs") (t:=247) (cd:=93) (dv:=[]) (dvs:=[]) (fun P=>by kernel_rfl) (fun P=>by kernel_rfl) (by kernel_rfl) (fun us hu s hs=>?_) (fun W=>by rfl) hb (fun c e=>nomatch e)
 obtain ⟨u0,rfl⟩:=aXu hu
 exact BindsTo.of_eq (by kernel_rfl)
noncomputable def aqK:M MF:=
 (ajc (ifM (ajh (getL 0) (ret (MV.bytes [64])) mEq aj3) (aju (ret (MV.bool false))) (ret MF.next))
 (ajc (ifM (ajh (ret (MV.bytes [47])) (getL 0) ax6 aj3) (aju (ret (MV.bool false))) (ret MF.next))
 (ajc (ifM (ajh (ret (MV.bytes [46,46])) (getL 0) mIn aj3) (aju (ret (MV.bool false))) (ret MF.next))
 (ajc (bKx (getL 0) (azm fun xs=>gE xs 2 (ajg (ajD 1) (ajg (ajD 2) aqj) xs)) (ifM (ifM (ajh (bnd (aj0 (aje (getL 0) (getL 1) (ajs (getL 1) (ret (MV.int 1)) akc)) (ret [])) bQz) (ret (MV.int 32)) mLt aj3) (ret true) (ifM (ajh (getL 2) (ret (MV.bytes [127,32,126,94,58,63,42,91])) mIn aj3) (ret true) (ret false))) (aju (ret (MV.bool false))) (ret MF.next)))
 (ajc (ifM (ajh (ajs (getL 0) (bnd (ret (MV.int 1)) aJd) ajG) (ret (MV.bytes [47,46])) mIn aj3) (aju (ret (MV.bool false))) (ret MF.next))
 (ajc (ifM (ajh (ret (MV.bytes [64,123])) (getL 0) mIn aj3) (aju (ret (MV.bool false))) (ret MF.next))
 (ajc (ifM (ajh (ret (MV.bytes [92])) (getL 0) mIn aj3) (aju (ret (MV.bool false))) (ret MF.next))
 (ajc (bnd (bnd (ajk aqz (getL 0) (aj0 (ret (MV.bytes [47])) (ret [])) aKk) aq7) fun xs=>aqu xs (ajD 3) (ajc (ifM (aKU (bnd (getL 3) aj3)) (aju (ret (MV.bool false))) (ret MF.next))
 (ajc (ifM (bnd (ajk aqz (getL 3) (aj0 (ret (MV.bytes [46])) (ret [])) azt) aj3) (aju (ret (MV.bool false))) (ret MF.next))
 (ifM (bnd (ajk aqz (getL 3) (aj0 (ret (MV.bytes [46,108,111,99,107])) (ret [])) bku) aj3) (aju (ret (MV.bool false))) (ret MF.next)))))
 (aju (ret (MV.bool true)))))))))))
noncomputable def ajo:List MV→M MV:=fnM 1 4 aqK
set_option maxHeartbeats 2000000 in
theorem avg (X:PF S):aj1 S ⟨ajd (atS top 16),["refname","i","c","component"],none⟩ 0 (aja (atS top 16)) aqK:=by
 refine aj1.cons ?_ ?_
 ·refine aj9.ife ?_ ?_ aj1.nil
  ·exact ajf.cmp (aj6 0 TT) aj5.cBytes aj4.eq TB.truth (Eq.refl false)
  refine aj1.last ?_
  exact aj9.ret1 aj5.cBool
 refine aj1.cons ?_ ?_
 ·refine aj9.ife ?_ ?_ aj1.nil
  ·exact ajf.cmp aj5.cBytes (aj6 0 TT) aj4.notIn TB.truth (Eq.refl false)
  refine aj1.last ?_
  exact aj9.ret1 aj5.cBool
 refine aj1.cons ?_ ?_
 ·refine aj9.ife ?_ ?_ aj1.nil
  ·exact ajf.cmp aj5.cBytes (aj6 0 TT) aj4.isIn TB.truth (Eq.refl false)
  refine aj1.last ?_
  exact aj9.ret1 aj5.cBool
 refine aj1.cons ?_ ?_
 ·refine aj9.forEnum (NmB (aXU X) TT) (aj6 0 TT) TT (aJ4.tup (ajF.cons (aqq 1 TT) (ajF.cons (aqq 2 TT) ajF.nil)) (fun _=>rfl) (fun _=>rfl)) ?_
  refine aj1.last ?_
  refine aj9.ife ?_ ?_ aj1.nil
  ·refine ajf.bop ?_
   refine aj8.or ?_ ?_
   ·refine ajf.cmp ?_ aj5.cInt aj4.lt TB.truth (Eq.refl false)
    refine az6 (bKG X) TT ?_ aj2.ord
    refine l1_ TT ?_
    refine aj5.slice (aj6 0 TT) ?_ ?_
    ·exact aqB.some (aj6 1 TT)
    refine aqB.some ?_
    exact aj5.bin (aj6 1 TT) aj5.cInt aj4.add
   refine aj8.or ?_ aj8.orNil
   exact ajf.cmp (aj6 2 TT) (bqT (aQ4 X) TT) aj4.isIn TB.truth (Eq.refl false)
  refine aj1.last ?_
  exact aj9.ret1 aj5.cBool
 refine aj1.cons ?_ ?_
 ·refine aj9.ife ?_ ?_ aj1.nil
  ·refine ajf.cmp ?_ aj5.cBytes aj4.isIn TB.truth (Eq.refl false)
   refine akq TT (aj6 0 TT) ?_
   exact aj5.un aj5.cInt azO.neg
  refine aj1.last ?_
  exact aj9.ret1 aj5.cBool
 refine aj1.cons ?_ ?_
 ·refine aj9.ife ?_ ?_ aj1.nil
  ·exact ajf.cmp aj5.cBytes (aj6 0 TT) aj4.isIn TB.truth (Eq.refl false)
  refine aj1.last ?_
  exact aj9.ret1 aj5.cBool
 refine aj1.cons ?_ ?_
 ·refine aj9.ife ?_ ?_ aj1.nil
  ·exact ajf.cmp aj5.cBytes (aj6 0 TT) aj4.isIn TB.truth (Eq.refl false)
  refine aj1.last ?_
  exact aj9.ret1 aj5.cBool
 refine aj1.cons ?_ ?_
 ·refine aj9.forL ?_ (aqq 3 TT) ?_ TT (fun _ _=>rfl)
  ·refine ak9.val ?_ aqn.all
   refine ajQ (ajH.bytes BF.slot_split BF.type_split) aj2.split TT (aj6 0 TT) ?_
   exact l1_ TT aj5.cBytes
  refine aj1.cons ?_ ?_
  ·refine aj9.ife ?_ ?_ aj1.nil
   ·refine ajf.not ?_
    exact ajf.val (aj6 3 TT) TB.truth (fun _ _=>rfl)
   refine aj1.last ?_
   exact aj9.ret1 aj5.cBool
  refine aj1.cons ?_ ?_
  ·refine aj9.ife ?_ ?_ aj1.nil
   ·refine ajf.val ?_ TB.truth (fun _ _=>rfl)
    refine ajQ (ajH.bytes FB.slot_bytes_startswith FB.type_bytes_startswith) aj2.starts TT (aj6 3 TT) ?_
    exact l1_ TT aj5.cBytes
   refine aj1.last ?_
   exact aj9.ret1 aj5.cBool
  refine aj1.last ?_
  refine aj9.ife ?_ ?_ aj1.nil
  ·refine ajf.val ?_ TB.truth (fun _ _=>rfl)
   refine ajQ (ajH.bytes FB.slot_bytes_endswith FB.type_bytes_endswith) aj2.ends TT (aj6 3 TT) ?_
   exact l1_ TT aj5.cBytes
  refine aj1.last ?_
  exact aj9.ret1 aj5.cBool
 refine aj1.last ?_
 exact aj9.ret1 aj5.cBool
theorem aqH (X:PF S):aj2 S 1 (.ref 101) ajo:=by
 have hb:=avg X
 refine fn_ X (s:=(atS top 16)) 101 ["refname","i","c","component"] 1 (q:="check_ref_format") (dV:=.none) (pm:="dulwich.refs") (t:=247) (cd:=100) (dv:=[]) (dvs:=[]) (fun P=>by kernel_rfl) (fun P=>by kernel_rfl) (by kernel_rfl) (fun us hu s hs=>?_) (fun W=>by rfl) hb (fun c e=>nomatch e)
 obtain ⟨u0,rfl⟩:=aXu hu
 exact BindsTo.of_eq (by kernel_rfl)
noncomputable def axI:M MF:=
 (ajc (ifM (bnd (ajs (bnd (aj0 (getL 0) (ret [])) aQL) (ret (MV.int 2)) aXn) aj3) (bzK (aj0 (ret (MV.str "Odd-length string")) (ret [])) (.type "ValueError")) (ret MF.next))
 (aju (bnd (aj0 (ax7 [(0,"text")] (bnd (aj0 (ret (MV.int 0)) (aj0 (bnd (aj0 (getL 0) (ret [])) aQL) (aj0 (ret (MV.int 2)) (ret [])))) axB) (ret true) (ajs (ajs (bnd (aj0 (ajs (getL 1) (getL 0) ajG) (ret [])) azG) (ret (MV.int 16)) aJo) (bnd (aj0 (ajs (getL 1) (ajs (getL 0) (ret (MV.int 1)) akc) ajG) (ret [])) azG) akc)) (ret [])) avV)))
noncomputable def azF:List MV→M MV:=fun as=>gE as 1 (aQj 1 axI as)
set_option maxHeartbeats 8000000 in
theorem aXJ (X:PF S):aj1 S ⟨ajd (atS top 5),["text"],none⟩ 1 (aja (atS top 5)) axI:=by
 refine aj1.cons ?_ ?_
 ·refine aj9.ife ?_ ?_ aj1.nil
  ·refine ajf.val ?_ TB.truth (fun _ _=>rfl)
   refine aj5.bin ?_ aj5.cInt aj4.mod
   refine az6 (aQq X) TT ?_ aj2.len
   exact l1_ TT (aXH 0 TT)
  refine aj1.last ?_
  refine aJB (ajR X) excClass_ValueError TT ?_
  exact l1_ TT aj5.cStr
 refine aj1.last ?_
 refine aj9.ret1 ?_
 refine bJk (bzy X) TT ?_ aj2.bytes
 refine l1_ TT ?_
 refine aj5.listComp (bX6 (k:=0) (c:="text") (x:="k") (by kernel_rfl)) (by rfl) (by rfl) ?_ aXQ.nil ?_ TT
 ·refine bjU (aXT X) TT ?_
  refine ajw.cons aj5.cInt ?_ TT
  refine l2_ TT ?_ aj5.cInt
  refine az6 (aQq X) TT ?_ aj2.len
  exact l1_ TT (aXH 0 TT)
 refine aj5.bin ?_ ?_ aj4.add
 ·refine aj5.bin ?_ aj5.cInt aj4.mul
  refine ajP (aVA X) TT ?_ (bjP X) TT
  refine l1_ TT ?_
  exact akq TT (aXH 1 TT) (aj6 0 TT)
 refine ajP (aVA X) TT ?_ (bjP X) TT
 refine l1_ TT ?_
 refine akq TT (aXH 1 TT) ?_
 exact aj5.bin (aj6 0 TT) aj5.cInt aj4.add
theorem aX2 (X:PF S):aj2 S 2 (.ref 46) azF:=by
 have hb:=aXJ X
 refine bX0 X (s:=(atS top 5)) 46 ["text"] 1 (q:="unhexlify") (dV:=.none) (pm:="dulwich.objects") (t:=216) (cd:=45) (fun P=>by kernel_rfl) (fun P=>by kernel_rfl) (by kernel_rfl) (fun us hu=>?_) hb
 obtain ⟨u0,rfl⟩:=aXu hu
 kernel_rfl
noncomputable def axJ:M MF:=
 (aju (ax7 [(1,"base")] (bnd (getL 0) aq7) (ajh (aje (getL 0) (ret MV.none) (bnd (aj0 (getL 1) (ret [])) aQL)) (getL 1) mEq aj3) (aje (getL 0) (bnd (aj0 (getL 1) (ret [])) aQL) (ret MV.none))))
noncomputable def az0:List MV→M MV:=fun as=>gE as 2 (aQj 2 axJ as)
set_option maxHeartbeats 8000000 in
theorem aXK (X:PF S):aj1 S ⟨ajd (atS top 31),["held","base"],none⟩ 0 (aja (atS top 31)) axJ:=by
 refine aj1.last ?_
 refine aj9.ret1 ?_
 refine aj5.listComp (bX6 (k:=1) (c:="base") (x:="name") (by kernel_rfl)) (by rfl) (by rfl) ?_ ?_ ?_ TT
 ·exact ak9.val (aj6 0 TT) aqn.all
 ·refine aXQ.one ?_
  refine ajf.cmp ?_ (aXH 1 TT) aj4.eq TB.truth (Eq.refl false)
  refine aj5.slice (aj6 0 TT) aqB.none ?_
  refine aqB.some ?_
  refine az6 (aQq X) TT ?_ aj2.len
  exact l1_ TT (aXH 1 TT)
 refine aj5.slice (aj6 0 TT) ?_ aqB.none
 refine aqB.some ?_
 refine az6 (aQq X) TT ?_ aj2.len
 exact l1_ TT (aXH 1 TT)
theorem aX3 (X:PF S):aj2 S 1 (.ref 358) az0:=by
 have hb:=aXK X
 refine bX0 X (s:=(atS top 31)) 358 ["held","base"] 2 (q:="_law_under") (dV:=.none) (pm:="law_ji0035_01") (t:=549) (cd:=357) (fun P=>by kernel_rfl) (fun P=>by kernel_rfl) (by kernel_rfl) (fun us hu=>?_) hb
 refine azD (aXt hu) fun u0 u1 e6_=>?_;subst e6_
 kernel_rfl
end Mine
end
section
namespace Mine
open PySem PySem.W PyProof.Rows PySem.Calls
variable {S:ajA}{g:Sig}{d:Nat}
noncomputable def azT:M MF:=
 (ajc (ifM (ajh (bnd (aj0 (getL 0) (ret [])) aQL) (aka (aj0 (ret (MV.int 40)) (aj0 (ret (MV.int 64)) (ret [])))) ax6 aj3) (aju (ret (MV.bool false))) (ret MF.next))
 (aVE (axO (bnd (aj0 (getL 0) (ret [])) azF)) (aq0 [(aKZ,(ret (MF.ret (MV.bool false))))]) (aju (ret (MV.bool true)))))
noncomputable def aqI:List MV→M MV:=fnM 1 1 azT
set_option maxHeartbeats 2000000 in
theorem aQm (X:PF S):aj1 S ⟨ajd (atS top 8),["hex"],none⟩ 2 (aja (atS top 8)) azT:=by
 refine aj1.cons ?_ ?_
 ·refine aj9.ife ?_ ?_ aj1.nil
  ·refine ajf.cmp ?_ ?_ aj4.notIn TB.truth (Eq.refl false)
   ·refine az6 (aQq X) TT ?_ aj2.len
    exact l1_ TT (aj6 0 TT)
   refine aqY (by kernel_rfl) ?_
   exact l2_ TT aj5.cInt aj5.cInt
  refine aj1.last ?_
  exact aj9.ret1 aj5.cBool
 refine aj1.last ?_
 refine aj9.tryE ?_ (aQo.cons (bvd X (NmB (aXW X) TT) (NmB (ajR X) TT) rfl rfl) (aZU.retV aVz.bool) aQo.nil) ?_
 ·refine aj1.last ?_
  refine aj9.expr ?_ TT
  refine ajP (aXS X) TT ?_ (aX2 X) TT
  exact l1_ TT (aj6 0 TT)
 refine aj1.last ?_
 exact aj9.ret1 aj5.cBool
theorem aQ9 (X:PF S):aj2 S 3 (.ref 60) aqI:=by
 have hb:=aQm X
 refine fn_ X (s:=(atS top 8)) 60 ["hex"] 1 (q:="valid_hexsha") (dV:=.none) (pm:="dulwich.objects") (t:=216) (cd:=59) (dv:=[]) (dvs:=[]) (fun P=>by kernel_rfl) (fun P=>by kernel_rfl) (by kernel_rfl) (fun us hu s hs=>?_) (fun W=>by rfl) hb (fun c e=>nomatch e)
 obtain ⟨u0,rfl⟩:=aXu hu
 exact BindsTo.of_eq (by kernel_rfl)
noncomputable def aJL:M MF:=
 (aju (bnd (bnd (getL 0) azB) aZt))
noncomputable def aqy:List MV→M MV:=fnM 1 1 aJL
set_option maxHeartbeats 2000000 in
theorem bzp (X:PF S):aj1 S ⟨ajd (atS (aja (atS top 19)) 1),["self"],none⟩ 0 (aja (atS (aja (atS top 19)) 1)) aJL:=by
 refine aj1.last ?_
 refine aj9.ret1 ?_
 refine aj5.setKeys (NmB (bZe X) TT) ?_ TT TT
 exact aj5.refsAttr X.refs (aj6 0 TT)
theorem av1 (X:PF S):aj2 S 1 (.ref 229) aqy:=by
 have hb:=bzp X
 refine fn_ X (s:=(atS (aja (atS top 19)) 1)) 229 ["self"] 1 (q:="DictRefsContainer.allkeys") (dV:=.none) (pm:="dulwich.refs") (t:=247) (cd:=228) (dv:=[]) (dvs:=[]) (fun P=>by kernel_rfl) (fun P=>by kernel_rfl) (by kernel_rfl) (fun us hu s hs=>?_) (fun W=>by rfl) hb (fun c e=>nomatch e)
 obtain ⟨u0,rfl⟩:=aXu hu
 exact BindsTo.of_eq (by kernel_rfl)
noncomputable def az4:M MF:=
 (aju (ajk ax9 (bnd (getL 0) azB) (aj0 (getL 1) (aj0 (ret MV.none) (ret []))) axe))
noncomputable def aqe:List MV→M MV:=fnM 2 2 az4
set_option maxHeartbeats 2000000 in
theorem aJi (X:PF S):aj1 S ⟨ajd (atS (aja (atS top 19)) 2),["self","name"],none⟩ 0 (aja (atS (aja (atS top 19)) 2)) az4:=by
 refine aj1.last ?_
 refine aj9.ret1 ?_
 refine ajQ ajH.dictGet aj2.dictGet TT ?_ ?_
 ·exact aj5.refsAttr X.refs (aj6 0 TT)
 exact l2_ TT (aj6 1 TT) aj5.cNone
theorem aJ9 (X:PF S):aj2 S 1 (.ref 236) aqe:=by
 have hb:=aJi X
 refine fn_ X (s:=(atS (aja (atS top 19)) 2)) 236 ["self","name"] 2 (q:="DictRefsContainer.read_loose_ref") (dV:=.none) (pm:="dulwich.refs") (t:=247) (cd:=235) (dv:=[]) (dvs:=[]) (fun P=>by kernel_rfl) (fun P=>by kernel_rfl) (by kernel_rfl) (fun us hu s hs=>?_) (fun W=>by rfl) hb (fun c e=>nomatch e)
 refine azD (aXt hu) fun u0 u1 e0_=>?_;subst e0_
 exact BindsTo.of_eq (by kernel_rfl)
noncomputable def aqT:M MF:=
 (aju (ret (MV.dict [])))
noncomputable def aq1:List MV→M MV:=fnM 1 1 aqT
set_option maxHeartbeats 2000000 in
theorem avK (X:PF S):aj1 S ⟨ajd (atS (aja (atS top 19)) 3),["self"],none⟩ 0 (aja (atS (aja (atS top 19)) 3)) aqT:=by
 refine aj1.last ?_
 exact aj9.ret1 aj5.dictD
theorem avv (X:PF S):aj2 S 1 (.ref 243) aq1:=by
 have hb:=avK X
 refine fn_ X (s:=(atS (aja (atS top 19)) 3)) 243 ["self"] 1 (q:="DictRefsContainer.get_packed_refs") (dV:=.none) (pm:="dulwich.refs") (t:=247) (cd:=242) (dv:=[]) (dvs:=[]) (fun P=>by kernel_rfl) (fun P=>by kernel_rfl) (by kernel_rfl) (fun us hu s hs=>?_) (fun W=>by rfl) hb (fun c e=>nomatch e)
 obtain ⟨u0,rfl⟩:=aXu hu
 exact BindsTo.of_eq (by kernel_rfl)
noncomputable def avC:M MF:=
 (ajc (aqc (ajk ajK (getL 0) (aj0 (getL 1) (ret [])) aqe) 2)
 (ajc (ifM (aKU (bnd (getL 2) aj3)) (aqc (ajk ax9 (ajk ajK (getL 0) (ret []) aq1) (aj0 (getL 1) (aj0 (ret MV.none) (ret []))) axe) 2) (ret MF.next))
 (aju (getL 2))))
noncomputable def aq4:List MV→M MV:=fnM 2 3 avC
set_option maxHeartbeats 2000000 in
theorem bje (X:PF S):aj1 S ⟨ajd (atS (aja (atS top 18)) 5),["self","refname","contents"],none⟩ 1 (aja (atS (aja (atS top 18)) 5)) avC:=by
 refine aj1.cons ?_ ?_
 ·refine azY 2 TT ?_
  refine aqP X (aJj X) TT (aj6 0 TT) ?_ (aJ9 X) TT
  exact l1_ TT (aj6 1 TT)
 refine aj1.cons ?_ ?_
 ·refine aj9.ife ?_ ?_ aj1.nil
  ·refine ajf.not ?_
   exact ajf.val (aj6 2 TT) TB.truth (fun _ _=>rfl)
  refine aj1.last ?_
  refine azY 2 TT ?_
  refine ajQ ajH.dictGet aj2.dictGet TT ?_ ?_
  ·exact aqP X (avP X) TT (aj6 0 TT) ajw.nil (avv X) TT
  exact l2_ TT (aj6 1 TT) aj5.cNone
 refine aj1.last ?_
 exact aj9.ret1 (aj6 2 TT)
theorem avt (X:PF S):aj2 S 2 (.ref 159) aq4:=by
 have hb:=bje X
 refine fn_ X (s:=(atS (aja (atS top 18)) 5)) 159 ["self","refname","contents"] 2 (q:="RefsContainer.read_ref") (dV:=.none) (pm:="dulwich.refs") (t:=247) (cd:=158) (dv:=[]) (dvs:=[]) (fun P=>by kernel_rfl) (fun P=>by kernel_rfl) (by kernel_rfl) (fun us hu s hs=>?_) (fun W=>by rfl) hb (fun c e=>nomatch e)
 refine azD (aXt hu) fun u0 u1 e1_=>?_;subst e1_
 exact BindsTo.of_eq (by kernel_rfl)
noncomputable def aVe:M MF:=
 (ajc (aqc (ajs (ret (MV.bytes [114,101,102,58,32])) (getL 1) akc) 2)
 (ajc (aqc (ret (MV.int 0)) 3)
 (ajc (aqc (azo (.list [])) 4)
 (ajc (avQ (ifM (bnd (getL 2) aj3) (ifM (bnd (ajk aqz (getL 2) (aj0 (ret (MV.bytes [114,101,102,58,32])) (ret [])) azt) aj3) (ret true) (ret false)) (ret false)) (ajc (aqc (bnd (aj0 (aje (getL 2) (bnd (aj0 (ret (MV.bytes [114,101,102,58,32])) (ret [])) aQL) (ret MV.none)) (ret [])) azI) 5)
 (ajc (axO (ajk aXv (getL 4) (aj0 (getL 5) (ret [])) ako))
 (ajc (aqc (ajk ajK (getL 0) (aj0 (getL 5) (ret [])) aq4) 2)
 (ajc (ifM (aKU (bnd (getL 2) aj3)) (ret MF.brk) (ret MF.next))
 (ajc (bXa 3 (ret (MV.int 1)))
 (ifM (ajh (getL 3) (ret (MV.int 5)) mGt aj3) (bnd (aj0 (getL 1) (aj0 (getL 3) (ret []))) fun as=>aqg (aKt as) (axC akG)) (ret MF.next))))))))
 (aju (aka (aj0 (bnd (getL 4) ajO) (aj0 (ifM (bnd (getL 2) aj3) (bnd (aj0 (getL 2) (ret [])) akm) (ret MV.none)) (ret [])))))))))
noncomputable def ax3:List MV→M MV:=fnM 2 6 aVe
set_option maxHeartbeats 2000000 in
theorem bx2 (X:PF S):aj1 S ⟨ajd (atS (aja (atS top 18)) 6),["self","name","contents","depth","refnames","refname"],none⟩ 2 (aja (atS (aja (atS top 18)) 6)) aVe:=by
 refine aj1.cons ?_ ?_
 ·refine azY 2 TT ?_
  exact aj5.bin (bqT (akC X) TT) (aj6 1 TT) aj4.add
 refine aj1.cons ?_ ?_
 ·exact azY 3 TT aj5.cInt
 refine aj1.cons ?_ ?_
 ·exact azY 4 TT aj5.listNew
 refine aj1.cons ?_ ?_
 ·refine aj9.whileL ?_ ?_
  ·refine ajf.bop ?_
   refine aj8.and ?_ ?_
   ·exact ajf.val (aj6 2 TT) TB.truth (fun _ _=>rfl)
   refine aj8.and ?_ aj8.andNil
   refine ajf.val ?_ TB.truth (fun _ _=>rfl)
   refine ajQ (ajH.bytes FB.slot_bytes_startswith FB.type_bytes_startswith) aj2.starts TT (aj6 2 TT) ?_
   exact l1_ TT (bqT (akC X) TT)
  refine aj1.cons ?_ ?_
  ·refine azY 5 TT ?_
   refine ajP (aXX X) TT ?_ (aX5 X) TT
   refine l1_ TT ?_
   refine aj5.slice (aj6 2 TT) ?_ aqB.none
   refine aqB.some ?_
   refine az6 (aQq X) TT ?_ aj2.len
   exact l1_ TT (bqT (akC X) TT)
  refine aj1.cons ?_ ?_
  ·refine aj9.expr ?_ TT
   refine ajQ ajH.append aj2.append TT (aj6 4 TT) ?_
   exact l1_ TT (aj6 5 TT)
  refine aj1.cons ?_ ?_
  ·refine azY 2 TT ?_
   refine aqP X (avO X) TT (aj6 0 TT) ?_ (avt X) TT
   exact l1_ TT (aj6 5 TT)
  refine aj1.cons ?_ ?_
  ·refine aj9.ife ?_ ?_ aj1.nil
   ·refine ajf.not ?_
    exact ajf.val (aj6 2 TT) TB.truth (fun _ _=>rfl)
   exact aj1.last aj9.brk
  refine aj1.cons ?_ ?_
  ·exact aug_ 3 TT aj5.cInt
  refine aj1.last ?_
  refine aj9.ife ?_ ?_ aj1.nil
  ·exact ajf.cmp (aj6 3 TT) aj5.cInt aj4.gt TB.truth (Eq.refl false)
  refine aj1.last ?_
  refine aK6 X (d:=1) (NmG (axm X) TT) TT ?_
  exact l2_ TT (aj6 1 TT) (aj6 3 TT)
 refine aj1.last ?_
 refine aj9.ret1 ?_
 refine aqY (by kernel_rfl) ?_
 refine l2_ TT ?_ ?_
 ·exact aj5.freeze (aj6 4 TT)
 refine aj5.ife ?_ ?_ aj5.cNone
 ·exact ajf.val (aj6 2 TT) TB.truth (fun _ _=>rfl)
 refine ajP (bjn X) TT ?_ (aVM X) TT
 exact l1_ TT (aj6 2 TT)
theorem aZ9 (X:PF S):aj2 S 3 (.ref 166) ax3:=by
 have hb:=bx2 X
 refine fn_ X (s:=(atS (aja (atS top 18)) 6)) 166 ["self","name","contents","depth","refnames","refname"] 2 (q:="RefsContainer.follow") (dV:=.none) (pm:="dulwich.refs") (t:=247) (cd:=165) (dv:=[]) (dvs:=[]) (fun P=>by kernel_rfl) (fun P=>by kernel_rfl) (by kernel_rfl) (fun us hu s hs=>?_) (fun W=>by rfl) hb (fun c e=>nomatch e)
 refine azD (aXt hu) fun u0 u1 e2_=>?_;subst e2_
 exact BindsTo.of_eq (by kernel_rfl)
noncomputable def aKi:M MF:=
 (ajc (aqc (bnd (ret []) bvF) 2)
 (ajc (aqc (ajs (bnd (aj0 (getL 1) (ret [])) aQL) (ret (MV.int 1)) akc) 3)
 (ajc (bnd (bnd (ajk ajK (getL 0) (ret []) aqy) aq7) fun xs=>aqu xs (ajD 4) (ifM (bnd (ajk aqz (getL 4) (aj0 (getL 1) (ret [])) azt) aj3) (axO (ajk bZo (getL 2) (aj0 (bnd (aj0 (aje (getL 4) (getL 3) (ret MV.none)) (ret [])) azI) (ret [])) aQN)) (ret MF.next)))
 (aju (bnd (getL 2) ajO)))))
noncomputable def avA:List MV→M MV:=fnM 2 5 aKi
set_option maxHeartbeats 2000000 in
theorem bzn (X:PF S):aj1 S ⟨ajd (atS (aja (atS top 18)) 1),["self","base","keys","base_len","refname"],none⟩ 1 (aja (atS (aja (atS top 18)) 1)) aKi:=by
 refine aj1.cons ?_ ?_
 ·refine azY 2 TT ?_
  exact bJk (bZe X) TT ajw.nil aj2.set0
 refine aj1.cons ?_ ?_
 ·refine azY 3 TT ?_
  refine aj5.bin ?_ aj5.cInt aj4.add
  refine az6 (aQq X) TT ?_ aj2.len
  exact l1_ TT (aj6 1 TT)
 refine aj1.cons ?_ ?_
 ·refine aj9.forL ?_ (aqq 4 TT) ?_ TT (fun _ _=>rfl)
  ·refine ak9.val ?_ aqn.all
   exact aqP X (avl X) TT (aj6 0 TT) ajw.nil (av1 X) TT
  refine aj1.last ?_
  refine aj9.ife ?_ ?_ aj1.nil
  ·refine ajf.val ?_ TB.truth (fun _ _=>rfl)
   refine ajQ (ajH.bytes FB.slot_bytes_startswith FB.type_bytes_startswith) aj2.starts TT (aj6 4 TT) ?_
   exact l1_ TT (aj6 1 TT)
  refine aj1.last ?_
  refine aj9.expr ?_ TT
  refine ajQ ajH.add aj2.addTo TT (aj6 2 TT) ?_
  refine l1_ TT ?_
  refine ajP (aXX X) TT ?_ (aX5 X) TT
  refine l1_ TT ?_
  refine aj5.slice (aj6 4 TT) ?_ aqB.none
  exact aqB.some (aj6 3 TT)
 refine aj1.last ?_
 refine aj9.ret1 ?_
 exact aj5.freeze (aj6 2 TT)
theorem bjM (X:PF S):aj2 S 2 (.ref 130) avA:=by
 have hb:=bzn X
 refine fn_ X (s:=(atS (aja (atS top 18)) 1)) 130 ["self","base","keys","base_len","refname"] 2 (q:="RefsContainer.subkeys") (dV:=.none) (pm:="dulwich.refs") (t:=247) (cd:=129) (dv:=[]) (dvs:=[]) (fun P=>by kernel_rfl) (fun P=>by kernel_rfl) (by kernel_rfl) (fun us hu s hs=>?_) (fun W=>by rfl) hb (fun c e=>nomatch e)
 refine azD (aXt hu) fun u0 u1 e3_=>?_;subst e3_
 exact BindsTo.of_eq (by kernel_rfl)
noncomputable def aQJ:M MF:=
 (ifM (ajh (getL 1) (ret MV.none) ajI aj3) (aju (ajk ajK (getL 0) (aj0 (getL 1) (ret [])) avA)) (aju (ajk ajK (getL 0) (ret []) aqy)))
noncomputable def ax2:List MV→M MV:=fnM 2 2 aQJ
set_option maxHeartbeats 2000000 in
theorem bxV (X:PF S):aj1 S ⟨ajd (atS (aja (atS top 18)) 0),["self","base"],none⟩ 2 (aja (atS (aja (atS top 18)) 0)) aQJ:=by
 refine aj1.last ?_
 refine aj9.ife ?_ ?_ ?_
 ·exact ajf.cmp (aj6 1 TT) aj5.cNone aj4.isNotNone TB.truth (Eq.refl false)
 ·refine aj1.last ?_
  refine aj9.ret1 ?_
  refine aqP X (bzw X) TT (aj6 0 TT) ?_ (bjM X) TT
  exact l1_ TT (aj6 1 TT)
 refine aj1.last ?_
 refine aj9.ret1 ?_
 exact aqP X (avl X) TT (aj6 0 TT) ajw.nil (av1 X) TT
theorem bxm (X:PF S):aj2 S 3 (.ref 123) ax2:=by
 have hb:=bxV X
 refine fn_ X (s:=(atS (aja (atS top 18)) 0)) 123 ["self","base"] 2 (q:="RefsContainer.keys") (dV:=.ref 116) (pm:="dulwich.refs") (t:=247) (cd:=122) (dv:=[]) (dvs:=[]) (fun P=>by kernel_rfl) (fun P=>by kernel_rfl) (by kernel_rfl) (fun us hu s hs=>?_) (fun W=>by rfl) hb (fun c e=>nomatch e)
 refine azD (aXt hu) fun u0 u1 e4_=>?_;subst e4_
 rw [X.k] at hs;exact binds_K (T:=116) (o:={ cls:=.type "tuple",data:=.seq #[.none] }) hs rfl (by kernel_rfl) rfl rfl rfl
noncomputable def av4:List MV→M MV:=fun as=>gE as 1 (aQj 2 aQJ (as++[.none]))
theorem bvg (X:PF S):aj2 S 3 (.ref 123) av4:=by
 have hb:=bxV X
 refine fn_ X (s:=(atS (aja (atS top 18)) 0)) 123 ["self","base"] 1 (q:="RefsContainer.keys") (dV:=.ref 116) (pm:="dulwich.refs") (t:=247) (cd:=122) (dv:=[.none]) (dvs:=[.none]) (fun P=>by kernel_rfl) (fun P=>by kernel_rfl) (by kernel_rfl) (fun us hu s hs=>?_) (fun W=>by exact ⟨_,_,rfl,rfl,rfl⟩) hb (fun c e=>nomatch e)
 obtain ⟨u0,rfl⟩:=aXu hu
 rw [X.k] at hs;exact binds_K (T:=116) (o:={ cls:=.type "tuple",data:=.seq #[.none] }) hs rfl (by kernel_rfl) rfl rfl rfl
noncomputable def axM:M MF:=
 (ajc (ifM (bnd (ajk ajK (getL 0) (aj0 (getL 1) (ret [])) aq4) aj3) (aju (ret (MV.bool true))) (ret MF.next))
 (aju (ret (MV.bool false))))
noncomputable def azH:List MV→M MV:=fnM 2 2 axM
set_option maxHeartbeats 2000000 in
theorem aXO (X:PF S):aj1 S ⟨ajd (atS (aja (atS top 18)) 7),["self","refname"],none⟩ 2 (aja (atS (aja (atS top 18)) 7)) axM:=by
 refine aj1.cons ?_ ?_
 ·refine aj9.ife ?_ ?_ aj1.nil
  ·refine ajf.val ?_ TB.truth (fun _ _=>rfl)
   refine aqP X (avO X) TT (aj6 0 TT) ?_ (avt X) TT
   exact l1_ TT (aj6 1 TT)
  refine aj1.last ?_
  exact aj9.ret1 aj5.cBool
 refine aj1.last ?_
 exact aj9.ret1 aj5.cBool
theorem aX4 (X:PF S):aj2 S 3 (.ref 173) azH:=by
 have hb:=aXO X
 refine fn_ X (s:=(atS (aja (atS top 18)) 7)) 173 ["self","refname"] 2 (q:="RefsContainer.__contains__") (dV:=.none) (pm:="dulwich.refs") (t:=247) (cd:=172) (dv:=[]) (dvs:=[]) (fun P=>by kernel_rfl) (fun P=>by kernel_rfl) (by kernel_rfl) (fun us hu s hs=>?_) (fun W=>by rfl) hb (fun c e=>nomatch e)
 refine azD (aXt hu) fun u0 u1 e5_=>?_;subst e5_
 exact BindsTo.of_eq (by kernel_rfl)
noncomputable def aQK:M MF:=
 (ajc (bnd (ajk ajK (getL 0) (aj0 (getL 1) (ret [])) ax3) fun a=>bnd (azm (fun xs=>gE xs 2 ((ajg (ajD 2) (ajg (ajD 3) aqj)) xs)) a) fun _=>ret MF.next)
 (ajc (ifM (ajh (getL 3) (ret MV.none) azu aj3) (bzK (aj0 (getL 1) (ret [])) (.type "KeyError")) (ret MF.next))
 (aju (getL 3))))
noncomputable def azq:List MV→M MV:=fnM 2 4 aQK
set_option maxHeartbeats 2000000 in
theorem bjj (X:PF S):aj1 S ⟨ajd (atS (aja (atS top 18)) 8),["self","name","_","sha"],none⟩ 3 (aja (atS (aja (atS top 18)) 8)) aQK:=by
 refine aj1.cons ?_ ?_
 ·refine aj9.assignTup ?_ (aJ4.tup (ajF.cons (aqq 2 TT) (ajF.cons (aqq 3 TT) ajF.nil)) (fun _=>rfl) (fun _=>rfl)) TT (fun _=>rfl)
  refine aqP X (aZR X) TT (aj6 0 TT) ?_ (aZ9 X) TT
  exact l1_ TT (aj6 1 TT)
 refine aj1.cons ?_ ?_
 ·refine aj9.ife ?_ ?_ aj1.nil
  ·exact ajf.cmp (aj6 3 TT) aj5.cNone aj4.isNone TB.truth (Eq.refl false)
  refine aj1.last ?_
  refine aJB (axu X) excClass_KeyError TT ?_
  exact l1_ TT (aj6 1 TT)
 refine aj1.last ?_
 exact aj9.ret1 (aj6 3 TT)
theorem aQz (X:PF S):aj2 S 4 (.ref 180) azq:=by
 have hb:=bjj X
 refine fn_ X (s:=(atS (aja (atS top 18)) 8)) 180 ["self","name","_","sha"] 2 (q:="RefsContainer.__getitem__") (dV:=.none) (pm:="dulwich.refs") (t:=247) (cd:=179) (dv:=[]) (dvs:=[]) (fun P=>by kernel_rfl) (fun P=>by kernel_rfl) (by kernel_rfl) (fun us hu s hs=>?_) (fun W=>by rfl) hb (fun c e=>nomatch e)
 refine azD (aXt hu) fun u0 u1 e6_=>?_;subst e6_
 exact BindsTo.of_eq (by kernel_rfl)
noncomputable def aJK:M MF:=
 (ajc (aqc (azo (.dict [])) 2)
 (ajc (aqc (ajk ajK (getL 0) (aj0 (getL 1) (ret [])) ax2) 3)
 (ajc (ret MF.next)
 (ajc (ifM (ajh (getL 1) (ret MV.none) azu aj3) (aqc (ret (MV.bytes [])) 4) (aqc (ajk aqz (getL 1) (aj0 (ret (MV.bytes [47])) (ret [])) aZu) 4))
 (ajc (bnd (bnd (getL 3) aq7) fun xs=>aqu xs (ajD 5) (aVE (az9 (ajs (getL 0) (bnd (aj0 (ajk aqz (ajs (ajs (getL 4) (ret (MV.bytes [47])) akc) (getL 5) akc) (aj0 (ret (MV.bytes [47])) (ret [])) aVf) (ret [])) azI) (aQM azq)) (getL 2) (getL 5) aQX) (aq0 [(aVG,(ret MF.cont))]) (ret MF.next)))
 (aju (bnd (getL 2) ajO)))))))
noncomputable def axq:List MV→M MV:=fnM 2 6 aJK
set_option maxHeartbeats 2000000 in
theorem aKL (X:PF S):aj1 S ⟨ajd (atS (aja (atS top 18)) 2),["self","base","ret","keys","base_bytes","key"],none⟩ 5 (aja (atS (aja (atS top 18)) 2)) aJK:=by
 refine aj1.cons ?_ ?_
 ·exact azY 2 TT aj5.dictNew
 refine aj1.cons ?_ ?_
 ·refine azY 3 TT ?_
  refine aqP X (bzx X) TT (aj6 0 TT) ?_ (bxm X) TT
  exact l1_ TT (aj6 1 TT)
 refine aj1.cons aj9.ann ?_
 refine aj1.cons ?_ ?_
 ·refine aj9.ife ?_ ?_ ?_
  ·exact ajf.cmp (aj6 1 TT) aj5.cNone aj4.isNone TB.truth (Eq.refl false)
  ·refine aj1.last ?_
   exact azY 4 TT aj5.cBytes
  refine aj1.last ?_
  refine azY 4 TT ?_
  refine ajQ (ajH.bytes BF.slot_rstrip BF.type_rstrip) aj2.rstrip TT (aj6 1 TT) ?_
  exact l1_ TT aj5.cBytes
 refine aj1.cons ?_ ?_
 ·refine aj9.forL ?_ (aqq 5 TT) ?_ TT (fun _ _=>rfl)
  ·exact ak9.val (aj6 3 TT) aqn.all
  refine aj1.last ?_
  refine aj9.tryE ?_ (aQo.cons (bve X (NmG (axm X) TT) (NmB (axu X) TT) rfl rfl) aZU.cont aQo.nil) aj1.nil
  refine aj1.last ?_
  refine aj9.setItem ?_ (aj6 2 TT) (aj6 5 TT) azb.dictSet TT
  refine bxE X (d:=4) (aj6 0 TT) ?_ (aQz X) TT (fun _ _=>rfl)
  refine ajP (aXX X) TT ?_ (aX5 X) TT
  refine l1_ TT ?_
  refine ajQ (ajH.bytes BF.slot_strip BF.type_strip) aj2.strip TT ?_ ?_
  ·refine aj5.bin ?_ (aj6 5 TT) aj4.add
   exact aj5.bin (aj6 4 TT) aj5.cBytes aj4.add
  exact l1_ TT aj5.cBytes
 refine aj1.last ?_
 refine aj9.ret1 ?_
 exact aj5.freeze (aj6 2 TT)
theorem bjQ (X:PF S):aj2 S 6 (.ref 138) axq:=by
 have hb:=aKL X
 refine fn_ X (s:=(atS (aja (atS top 18)) 2)) 138 ["self","base","ret","keys","base_bytes","key"] 2 (q:="RefsContainer.as_dict") (dV:=.ref 131) (pm:="dulwich.refs") (t:=247) (cd:=137) (dv:=[]) (dvs:=[]) (fun P=>by kernel_rfl) (fun P=>by kernel_rfl) (by kernel_rfl) (fun us hu s hs=>?_) (fun W=>by rfl) hb (fun c e=>nomatch e)
 refine azD (aXt hu) fun u0 u1 e0_=>?_;subst e0_
 rw [X.k] at hs;exact binds_K (T:=131) (o:={ cls:=.type "tuple",data:=.seq #[.none] }) hs rfl (by kernel_rfl) rfl rfl rfl
noncomputable def akl:List MV→M MV:=fun as=>gE as 1 (aQj 6 aJK (as++[.none]))
theorem aVL (X:PF S):aj2 S 6 (.ref 138) akl:=by
 have hb:=aKL X
 refine fn_ X (s:=(atS (aja (atS top 18)) 2)) 138 ["self","base","ret","keys","base_bytes","key"] 1 (q:="RefsContainer.as_dict") (dV:=.ref 131) (pm:="dulwich.refs") (t:=247) (cd:=137) (dv:=[.none]) (dvs:=[.none]) (fun P=>by kernel_rfl) (fun P=>by kernel_rfl) (by kernel_rfl) (fun us hu s hs=>?_) (fun W=>by exact ⟨_,_,rfl,rfl,rfl⟩) hb (fun c e=>nomatch e)
 obtain ⟨u0,rfl⟩:=aXu hu
 rw [X.k] at hs;exact binds_K (T:=131) (o:={ cls:=.type "tuple",data:=.seq #[.none] }) hs rfl (by kernel_rfl) rfl rfl rfl
noncomputable def av5:M MF:=
 (ajc (aqc (azo (.dict [])) 1)
 (ajc (bnd (bnd (ajk ajK (getL 0) (ret []) aqy) aq7) fun xs=>aqu xs (ajD 2) (aVE (ajc (aqc (ajk ajK (getL 0) (aj0 (getL 2) (ret [])) aq4) 3)
 (ajc (bnd (ajh (getL 3) (ret MV.none) ajI aj3) fun b=>aqg (b=true) (ret MF.next))
 (aqc (bnd (aj0 (getL 3) (ret [])) ajm) 4))) (aq0 [(aKZ,(ret MF.next))]) (az9 (bnd (aj0 (getL 4) (ret [])) azI) (getL 1) (getL 2) aQX)))
 (aju (bnd (getL 1) ajO))))
noncomputable def aqX:List MV→M MV:=fnM 1 5 av5
set_option maxHeartbeats 2000000 in
theorem aZK (X:PF S):aj1 S ⟨ajd (atS (aja (atS top 18)) 11),["self","ret","src","ref_value","dst"],none⟩ 2 (aja (atS (aja (atS top 18)) 11)) av5:=by
 refine aj1.cons ?_ ?_
 ·exact azY 1 TT aj5.dictNew
 refine aj1.cons ?_ ?_
 ·refine aj9.forL ?_ (aqq 2 TT) ?_ TT (fun _ _=>rfl)
  ·refine ak9.val ?_ aqn.all
   exact aqP X (avl X) TT (aj6 0 TT) ajw.nil (av1 X) TT
  refine aj1.last ?_
  refine aj9.tryE ?_ (aQo.cons (bjy X (NmB (ajR X) TT)) aZU.pass aQo.nil) ?_
  ·refine aj1.cons ?_ ?_
   ·refine azY 3 TT ?_
    refine aqP X (avO X) TT (aj6 0 TT) ?_ (avt X) TT
    exact l1_ TT (aj6 2 TT)
   refine aj1.cons ?_ ?_
   ·refine aj9.assert ?_
    exact ajf.cmp (aj6 3 TT) aj5.cNone aj4.isNotNone TB.truth (Eq.refl false)
   refine aj1.last ?_
   refine azY 4 TT ?_
   refine ajP (azc X) TT ?_ (aza X) TT
   exact l1_ TT (aj6 3 TT)
  refine aj1.last ?_
  refine aj9.setItem ?_ (aj6 1 TT) (aj6 2 TT) azb.dictSet TT
  refine ajP (aXX X) TT ?_ (aX5 X) TT
  exact l1_ TT (aj6 4 TT)
 refine aj1.last ?_
 refine aj9.ret1 ?_
 exact aj5.freeze (aj6 1 TT)
theorem aZ8 (X:PF S):aj2 S 3 (.ref 201) aqX:=by
 have hb:=aZK X
 refine fn_ X (s:=(atS (aja (atS top 18)) 11)) 201 ["self","ret","src","ref_value","dst"] 1 (q:="RefsContainer.get_symrefs") (dV:=.none) (pm:="dulwich.refs") (t:=247) (cd:=200) (dv:=[]) (dvs:=[]) (fun P=>by kernel_rfl) (fun P=>by kernel_rfl) (by kernel_rfl) (fun us hu s hs=>?_) (fun W=>by rfl) hb (fun c e=>nomatch e)
 obtain ⟨u0,rfl⟩:=aXu hu
 exact BindsTo.of_eq (by kernel_rfl)
noncomputable def azJ:M MF:=
 (ajc (aqc (ajs (ajk ajK (getL 0) (aj0 (getL 1) (ret [])) ax3) (bnd (ret (MV.int 1)) aJd) ajG) 3)
 (ajc (aqc (ajs (ret (MV.bytes [114,101,102,58,32])) (getL 2) akc) 4)
 (az9 (getL 4) (bnd (getL 0) azB) (getL 1) aQX)))
noncomputable def ajW:List MV→M MV:=fnM 3 5 azJ
set_option maxHeartbeats 2000000 in
theorem avd (X:PF S):aj1 S ⟨ajd (atS (aja (atS top 19)) 4),["self","name","other","old","new"],none⟩ 3 (aja (atS (aja (atS top 19)) 4)) azJ:=by
 refine aj1.cons ?_ ?_
 ·refine azY 3 TT ?_
  refine akq TT ?_ ?_
  ·refine aqP X (aZR X) TT (aj6 0 TT) ?_ (aZ9 X) TT
   exact l1_ TT (aj6 1 TT)
  exact aj5.un aj5.cInt azO.neg
 refine aj1.cons ?_ ?_
 ·refine azY 4 TT ?_
  exact aj5.bin (bqT (akC X) TT) (aj6 2 TT) aj4.add
 refine aj1.last ?_
 refine aj9.setItem (aj6 4 TT) ?_ (aj6 1 TT) azb.dictSet TT
 exact aj5.refsAttr X.refs (aj6 0 TT)
theorem axY (X:PF S):aj2 S 4 (.ref 250) ajW:=by
 have hb:=avd X
 refine fn_ X (s:=(atS (aja (atS top 19)) 4)) 250 ["self","name","other","old","new"] 3 (q:="DictRefsContainer.set_symbolic_ref") (dV:=.none) (pm:="dulwich.refs") (t:=247) (cd:=249) (dv:=[]) (dvs:=[]) (fun P=>by kernel_rfl) (fun P=>by kernel_rfl) (by kernel_rfl) (fun us hu s hs=>?_) (fun W=>by rfl) hb (fun c e=>nomatch e)
 refine bqc (bJB hu) fun u0 u1 u2 e1_=>?_;subst e1_
 exact BindsTo.of_eq (by kernel_rfl)
noncomputable def azK:M MF:=
 (ajc (ifM (ifM (ajh (getL 2) (ret MV.none) ajI aj3) (ifM (ajh (ajk ax9 (bnd (getL 0) azB) (aj0 (getL 1) (aj0 (ret (MV.bytes (List.replicate 40 48))) (ret []))) axe) (getL 2) mNe aj3) (ret true) (ret false)) (ret false)) (aju (ret (MV.bool false))) (ret MF.next))
 (ajc (aVE (aqc (ajk ax9 (bnd (getL 0) azB) (aj0 (getL 1) (ret [])) bJE) 3) (aq0 [(bzE,(ret MF.next))]) (ret MF.next))
 (aju (ret (MV.bool true)))))
noncomputable def aqs:List MV→M MV:=fnM 3 4 azK
set_option maxHeartbeats 2000000 in
theorem ave (X:PF S):aj1 S ⟨ajd (atS (aja (atS top 19)) 7),["self","name","old_ref","old"],none⟩ 0 (aja (atS (aja (atS top 19)) 7)) azK:=by
 refine aj1.cons ?_ ?_
 ·refine aj9.ife ?_ ?_ aj1.nil
  ·refine ajf.bop ?_
   refine aj8.and ?_ ?_
   ·exact ajf.cmp (aj6 2 TT) aj5.cNone aj4.isNotNone TB.truth (Eq.refl false)
   refine aj8.and ?_ aj8.andNil
   refine ajf.cmp ?_ (aj6 2 TT) aj4.ne TB.truth (Eq.refl false)
   refine ajQ ajH.dictGet aj2.dictGet TT ?_ ?_
   ·exact aj5.refsAttr X.refs (aj6 0 TT)
   exact l2_ TT (aj6 1 TT) (bqT (aZ1 X) TT)
  refine aj1.last ?_
  exact aj9.ret1 aj5.cBool
 refine aj1.cons ?_ ?_
 ·refine aj9.tryE ?_ (aQo.cons (bxh X (NmB (axu X) TT)) aZU.pass aQo.nil) aj1.nil
  refine aj1.last ?_
  refine azY 3 TT ?_
  refine ajQ ajH.dictPop aj2.dictPop TT ?_ ?_
  ·exact aj5.refsAttr X.refs (aj6 0 TT)
  exact l1_ TT (aj6 1 TT)
 refine aj1.last ?_
 exact aj9.ret1 aj5.cBool
theorem axZ (X:PF S):aj2 S 1 (.ref 271) aqs:=by
 have hb:=ave X
 refine fn_ X (s:=(atS (aja (atS top 19)) 7)) 271 ["self","name","old_ref","old"] 3 (q:="DictRefsContainer.remove_if_equals") (dV:=.none) (pm:="dulwich.refs") (t:=247) (cd:=270) (dv:=[]) (dvs:=[]) (fun P=>by kernel_rfl) (fun P=>by kernel_rfl) (by kernel_rfl) (fun us hu s hs=>?_) (fun W=>by rfl) hb (fun c e=>nomatch e)
 refine bqc (bJB hu) fun u0 u1 u2 e2_=>?_;subst e2_
 exact BindsTo.of_eq (by kernel_rfl)
noncomputable def aqU:M MF:=
 (ifM (aKU (ifM (bnd (bnd (aj0 (getL 1) (ret [])) aqI) aj3) (ret true) (ifM (bnd (ajk aqz (getL 1) (aj0 (ret (MV.bytes [114,101,102,58,32])) (ret [])) azt) aj3) (ret true) (ret false)))) (bzK (aj0 (bnd (getL 1) bvD) (ret [])) (.type "ValueError")) (ret MF.next))
noncomputable def ajx:List MV→M MV:=fnM 2 2 aqU
set_option maxHeartbeats 2000000 in
theorem avL (X:PF S):aj1 S ⟨ajd (atS (aja (atS top 18)) 4),["self","ref"],none⟩ 3 (aja (atS (aja (atS top 18)) 4)) aqU:=by
 refine aj1.last ?_
 refine aj9.ife ?_ ?_ aj1.nil
 ·refine ajf.not ?_
  refine ajf.bop ?_
  refine aj8.or ?_ ?_
  ·refine ajf.val ?_ TB.truth (fun _ _=>rfl)
   refine ajP (aQp X) TT ?_ (aQ9 X) TT
   exact l1_ TT (aj6 1 TT)
  refine aj8.or ?_ aj8.orNil
  refine ajf.val ?_ TB.truth (fun _ _=>rfl)
  refine ajQ (ajH.bytes FB.slot_bytes_startswith FB.type_bytes_startswith) aj2.starts TT (aj6 1 TT) ?_
  exact l1_ TT (bqT (akC X) TT)
 refine aj1.last ?_
 refine aJB (ajR X) excClass_ValueError TT ?_
 refine l1_ TT ?_
 exact aj5.fmt (aj6 1 TT) (by decide)
theorem aqQ (X:PF S):aj2 S 4 (.ref 152) ajx:=by
 have hb:=avL X
 refine fn_ X (s:=(atS (aja (atS top 18)) 4)) 152 ["self","ref"] 2 (q:="RefsContainer._check_ref_value") (dV:=.none) (pm:="dulwich.refs") (t:=247) (cd:=151) (dv:=[]) (dvs:=[]) (fun P=>by kernel_rfl) (fun P=>by kernel_rfl) (by kernel_rfl) (fun us hu s hs=>?_) (fun W=>by rfl) hb (fun c e=>nomatch e)
 refine azD (aXt hu) fun u0 u1 e3_=>?_;subst e3_
 exact BindsTo.of_eq (by kernel_rfl)
end Mine
end
section
namespace Mine
open PySem PySem.W PyProof.Rows PySem.Calls
variable {S:ajA}{g:Sig}{d:Nat}
noncomputable def aqJ:M MF:=
 (aju (bnd (ajk aqz (getL 0) (aj0 (ret (MV.bytes [47])) (ret [])) aKk) (bkr [47] 0)))
noncomputable def ajX:List MV→M MV:=fnM 1 1 aqJ
set_option maxHeartbeats 2000000 in
theorem avf (X:PF S):aj1 S ⟨ajd (atS top 17),["refname"],(some (.ref S.tc))⟩ 1 (aja (atS top 17)) aqJ:=by
 refine aj1.last ?_
 refine aj9.ret1 ?_
 refine aj5.joinGen 0 rfl ?_ (fun _ _=>rfl) rfl (by decide) (by decide) rfl rfl rfl TT (Eq.refl false)
 refine ajQ (ajH.bytes BF.slot_split BF.type_split) aj2.split TT (aj6 0 TT) ?_
 exact l1_ TT aj5.cBytes
theorem av0 (X:PF S):aj2 S 2 (.ref 108) ajX:=by
 have hb:=avf X
 refine fn_ X (s:=(atS top 17)) 108 ["refname"] 1 (q:="_collapse_slashes") (dV:=.none) (pm:="dulwich.refs") (t:=247) (cd:=107) (dv:=[]) (dvs:=[]) (fun P=>by kernel_rfl) (fun P=>by kernel_rfl) (by kernel_rfl) (fun us hu s hs=>?_) (fun W=>by rfl) hb (fun c e=>by rw [X.t] at e;exact Option.some.inj e)
 obtain ⟨u0,rfl⟩:=aXu hu
 exact BindsTo.of_eq (by kernel_rfl)
noncomputable def azs:M MF:=
 (ajc (ifM (ajh (getL 1) (aka (aj0 (ret (MV.bytes [72,69,65,68])) (aj0 (bnd (aj0 (ret (MV.bytes [114,101,102,115,47,115,116,97,115,104])) (ret [])) azI) (ret [])))) mIn aj3) (ret (MF.ret MV.none)) (ret MF.next))
 (ajc (ifM (aKU (bnd (ajk aqz (getL 1) (aj0 (ret (MV.bytes [114,101,102,115,47])) (ret [])) azt) aj3)) (bzK (aj0 (getL 1) (ret [])) aKV) (ret MF.next))
 (ajc (aqc (bnd (aj0 (aje (getL 1) (ret (MV.int 5)) (ret MV.none)) (ret [])) azI) 2)
 (ajc (ifM (bnd (bnd (aj0 (getL 2) (ret [])) ajo) aj3) (ret (MF.ret MV.none)) (ret MF.next))
 (ajc (ifM (ifM (ajh (ret (MV.bytes [47,47])) (getL 1) mIn aj3) (ifM (bnd (bnd (aj0 (bnd (aj0 (bnd (aj0 (getL 2) (ret [])) ajX) (ret [])) azI) (ret [])) ajo) aj3) (ret true) (ret false)) (ret false)) (ret (MF.ret MV.none)) (ret MF.next))
 (bzK (aj0 (getL 1) (ret [])) aKV))))))
noncomputable def aqp:List MV→M MV:=fnM 2 3 azs
set_option maxHeartbeats 2000000 in
theorem aQ0 (X:PF S):aj1 S ⟨ajd (atS (aja (atS top 18)) 3),["self","name","rest"],none⟩ 2 (aja (atS (aja (atS top 18)) 3)) azs:=by
 refine aj1.cons ?_ ?_
 ·refine aj9.ife ?_ ?_ aj1.nil
  ·refine ajf.cmp (aj6 1 TT) ?_ aj4.isIn TB.truth (Eq.refl false)
   refine aqY (by kernel_rfl) ?_
   refine l2_ TT (bqT (bzA X) TT) ?_
   refine ajP (aXX X) TT ?_ (aX5 X) TT
   exact l1_ TT aj5.cBytes
  exact aj1.last aj9.ret0
 refine aj1.cons ?_ ?_
 ·refine aj9.ife ?_ ?_ aj1.nil
  ·refine ajf.not ?_
   refine ajf.val ?_ TB.truth (fun _ _=>rfl)
   refine ajQ (ajH.bytes FB.slot_bytes_startswith FB.type_bytes_startswith) aj2.starts TT (aj6 1 TT) ?_
   exact l1_ TT aj5.cBytes
  refine aj1.last ?_
  refine akE X (NmG (az8 X) TT) TT ?_
  exact l1_ TT (aj6 1 TT)
 refine aj1.cons ?_ ?_
 ·refine azY 2 TT ?_
  refine ajP (aXX X) TT ?_ (aX5 X) TT
  refine l1_ TT ?_
  refine aj5.slice (aj6 1 TT) ?_ aqB.none
  exact aqB.some aj5.cInt
 refine aj1.cons ?_ ?_
 ·refine aj9.ife ?_ ?_ aj1.nil
  ·refine ajf.val ?_ TB.truth (fun _ _=>rfl)
   refine ajP (aqM X) TT ?_ (aqH X) TT
   exact l1_ TT (aj6 2 TT)
  exact aj1.last aj9.ret0
 refine aj1.cons ?_ ?_
 ·refine aj9.ife ?_ ?_ aj1.nil
  ·refine ajf.bop ?_
   refine aj8.and ?_ ?_
   ·exact ajf.cmp aj5.cBytes (aj6 1 TT) aj4.isIn TB.truth (Eq.refl false)
   refine aj8.and ?_ aj8.andNil
   refine ajf.val ?_ TB.truth (fun _ _=>rfl)
   refine ajP (aqM X) TT ?_ (aqH X) TT
   refine l1_ TT ?_
   refine ajP (aXX X) TT ?_ (aX5 X) TT
   refine l1_ TT ?_
   refine ajP (axT X) TT ?_ (av0 X) TT
   exact l1_ TT (aj6 2 TT)
  exact aj1.last aj9.ret0
 refine aj1.last ?_
 refine akE X (NmG (az8 X) TT) TT ?_
 exact l1_ TT (aj6 1 TT)
theorem aJA (X:PF S):aj2 S 3 (.ref 145) aqp:=by
 have hb:=aQ0 X
 refine fn_ X (s:=(atS (aja (atS top 18)) 3)) 145 ["self","name","rest"] 2 (q:="RefsContainer._check_refname") (dV:=.none) (pm:="dulwich.refs") (t:=247) (cd:=144) (dv:=[]) (dvs:=[]) (fun P=>by kernel_rfl) (fun P=>by kernel_rfl) (by kernel_rfl) (fun us hu s hs=>?_) (fun W=>by rfl) hb (fun c e=>nomatch e)
 refine azD (aXt hu) fun u0 u1 e4_=>?_;subst e4_
 exact BindsTo.of_eq (by kernel_rfl)
noncomputable def azr:M MF:=
 (ajc (axO (ajk ajK (getL 0) (aj0 (getL 3) (ret [])) ajx))
 (ajc (ifM (ifM (ajh (getL 2) (ret MV.none) ajI aj3) (ifM (ajh (ajk ax9 (bnd (getL 0) azB) (aj0 (getL 1) (aj0 (ret (MV.bytes (List.replicate 40 48))) (ret []))) axe) (getL 2) mNe aj3) (ret true) (ret false)) (ret false)) (aju (ret (MV.bool false))) (ret MF.next))
 (ajc (axO (ajk ajK (getL 0) (aj0 (getL 1) (ret [])) aqp))
 (ajc (aqc (ajk ax9 (bnd (getL 0) azB) (aj0 (getL 1) (ret [])) axe) 4)
 (ajc (az9 (getL 3) (bnd (getL 0) azB) (getL 1) aQX)
 (aju (ret (MV.bool true))))))))
noncomputable def ajY:List MV→M MV:=fnM 4 5 azr
set_option maxHeartbeats 2000000 in
theorem aJZ (X:PF S):aj1 S ⟨ajd (atS (aja (atS top 19)) 5),["self","name","old_ref","new_ref","old"],none⟩ 4 (aja (atS (aja (atS top 19)) 5)) azr:=by
 refine aj1.cons ?_ ?_
 ·refine aj9.expr ?_ TT
  refine aqP X (aqN X) TT (aj6 0 TT) ?_ (aqQ X) TT
  exact l1_ TT (aj6 3 TT)
 refine aj1.cons ?_ ?_
 ·refine aj9.ife ?_ ?_ aj1.nil
  ·refine ajf.bop ?_
   refine aj8.and ?_ ?_
   ·exact ajf.cmp (aj6 2 TT) aj5.cNone aj4.isNotNone TB.truth (Eq.refl false)
   refine aj8.and ?_ aj8.andNil
   refine ajf.cmp ?_ (aj6 2 TT) aj4.ne TB.truth (Eq.refl false)
   refine ajQ ajH.dictGet aj2.dictGet TT ?_ ?_
   ·exact aj5.refsAttr X.refs (aj6 0 TT)
   exact l2_ TT (aj6 1 TT) (bqT (aZ1 X) TT)
  refine aj1.last ?_
  exact aj9.ret1 aj5.cBool
 refine aj1.cons ?_ ?_
 ·refine aj9.expr ?_ TT
  refine aqP X (aJk X) TT (aj6 0 TT) ?_ (aJA X) TT
  exact l1_ TT (aj6 1 TT)
 refine aj1.cons ?_ ?_
 ·refine azY 4 TT ?_
  refine ajQ ajH.dictGet aj2.dictGet TT ?_ ?_
  ·exact aj5.refsAttr X.refs (aj6 0 TT)
  exact l1_ TT (aj6 1 TT)
 refine aj1.cons ?_ ?_
 ·refine aj9.setItem (aj6 3 TT) ?_ (aj6 1 TT) azb.dictSet TT
  exact aj5.refsAttr X.refs (aj6 0 TT)
 refine aj1.last ?_
 exact aj9.ret1 aj5.cBool
theorem akO (X:PF S):aj2 S 5 (.ref 257) ajY:=by
 have hb:=aJZ X
 refine fn_ X (s:=(atS (aja (atS top 19)) 5)) 257 ["self","name","old_ref","new_ref","old"] 4 (q:="DictRefsContainer.set_if_equals") (dV:=.none) (pm:="dulwich.refs") (t:=247) (cd:=256) (dv:=[]) (dvs:=[]) (fun P=>by kernel_rfl) (fun P=>by kernel_rfl) (by kernel_rfl) (fun us hu s hs=>?_) (fun W=>by rfl) hb (fun c e=>nomatch e)
 refine bxw (bKV hu) fun u0 u1 u2 u3 e5_=>?_;subst e5_
 exact BindsTo.of_eq (by kernel_rfl)
noncomputable def avB:M MF:=
 (ajc (axO (ajk ajK (getL 0) (aj0 (getL 2) (ret [])) ajx))
 (axO (ajk ajK (getL 0) (aj0 (getL 1) (aj0 (ret MV.none) (aj0 (getL 2) (ret [])))) ajY)))
noncomputable def akj:List MV→M MV:=fnM 3 3 avB
set_option maxHeartbeats 2000000 in
theorem bjd (X:PF S):aj1 S ⟨ajd (atS (aja (atS top 18)) 9),["self","name","ref"],none⟩ 5 (aja (atS (aja (atS top 18)) 9)) avB:=by
 refine aj1.cons ?_ ?_
 ·refine aj9.expr ?_ TT
  refine aqP X (aqN X) TT (aj6 0 TT) ?_ (aqQ X) TT
  exact l1_ TT (aj6 2 TT)
 refine aj1.last ?_
 refine aj9.expr ?_ TT
 refine aqP X (axk X) TT (aj6 0 TT) ?_ (akO X) TT
 refine ajw.cons (aj6 1 TT) ?_ TT
 exact l2_ TT aj5.cNone (aj6 2 TT)
theorem aVJ (X:PF S):aj2 S 6 (.ref 187) akj:=by
 have hb:=bjd X
 refine fn_ X (s:=(atS (aja (atS top 18)) 9)) 187 ["self","name","ref"] 3 (q:="RefsContainer.__setitem__") (dV:=.none) (pm:="dulwich.refs") (t:=247) (cd:=186) (dv:=[]) (dvs:=[]) (fun P=>by kernel_rfl) (fun P=>by kernel_rfl) (by kernel_rfl) (fun us hu s hs=>?_) (fun W=>by rfl) hb (fun c e=>nomatch e)
 refine bqc (bJB hu) fun u0 u1 u2 e6_=>?_;subst e6_
 exact BindsTo.of_eq (by kernel_rfl)
noncomputable def ax5:M MF:=
 (ajc (axO (ajk ajK (getL 0) (aj0 (getL 2) (ret [])) ajx))
 (ajc (ifM (ajh (getL 1) (bnd (getL 0) azB) mIn aj3) (aju (ret (MV.bool false))) (ret MF.next))
 (ajc (az9 (getL 2) (bnd (getL 0) azB) (getL 1) aQX)
 (aju (ret (MV.bool true))))))
noncomputable def azf:List MV→M MV:=fnM 3 3 ax5
set_option maxHeartbeats 2000000 in
theorem aKM (X:PF S):aj1 S ⟨ajd (atS (aja (atS top 19)) 6),["self","name","ref"],none⟩ 4 (aja (atS (aja (atS top 19)) 6)) ax5:=by
 refine aj1.cons ?_ ?_
 ·refine aj9.expr ?_ TT
  refine aqP X (aqN X) TT (aj6 0 TT) ?_ (aqQ X) TT
  exact l1_ TT (aj6 2 TT)
 refine aj1.cons ?_ ?_
 ·refine aj9.ife ?_ ?_ aj1.nil
  ·refine ajf.cmp (aj6 1 TT) ?_ aj4.isIn TB.truth (Eq.refl false)
   exact aj5.refsAttr X.refs (aj6 0 TT)
  refine aj1.last ?_
  exact aj9.ret1 aj5.cBool
 refine aj1.cons ?_ ?_
 ·refine aj9.setItem (aj6 2 TT) ?_ (aj6 1 TT) azb.dictSet TT
  exact aj5.refsAttr X.refs (aj6 0 TT)
 refine aj1.last ?_
 exact aj9.ret1 aj5.cBool
theorem aK3 (X:PF S):aj2 S 5 (.ref 264) azf:=by
 have hb:=aKM X
 refine fn_ X (s:=(atS (aja (atS top 19)) 6)) 264 ["self","name","ref"] 3 (q:="DictRefsContainer.add_if_new") (dV:=.none) (pm:="dulwich.refs") (t:=247) (cd:=263) (dv:=[]) (dvs:=[]) (fun P=>by kernel_rfl) (fun P=>by kernel_rfl) (by kernel_rfl) (fun us hu s hs=>?_) (fun W=>by rfl) hb (fun c e=>nomatch e)
 refine bqc (bJB hu) fun u0 u1 u2 e0_=>?_;subst e0_
 exact BindsTo.of_eq (by kernel_rfl)
noncomputable def aJJ:M MF:=
 (aju (aqi (ret (List.map MV.bytes [[72,69,65,68],[114,101,102,115,47,104,101,97,100,115,47,97],[114,101,102,115,47,104,101,97,100,115,47,98],[114,101,102,115,47,104,101,97,100,115,47,97,46,98,47,99],[114,101,102,115,47,116,97,103,115,47,118,49],[114,101,102,115,47,116,97,103,115,47,64,120],[114,101,102,115,47,115,116,97,115,104],[114,101,102,115,47,114,101,109,111,116,101,115,47,111,47,109],[114,101,102,115,47,104,101,97,100,115,47,100]]))))
noncomputable def aqw:List MV→M MV:=fnM 0 0 aJJ
theorem aXM (X:PF S):aj1 S ⟨ajd (atS top 21),[],none⟩ 0 (aja (atS top 21)) aJJ:=by
 have r:=aXG (S:=S) (g:=⟨ajd (atS top 21),[],none⟩) (d:=0) (b:=aja (atS top 21)) (bs:=[[72,69,65,68],[114,101,102,115,47,104,101,97,100,115,47,97],[114,101,102,115,47,104,101,97,100,115,47,98],[114,101,102,115,47,104,101,97,100,115,47,97,46,98,47,99],[114,101,102,115,47,116,97,103,115,47,118,49],[114,101,102,115,47,116,97,103,115,47,64,120],[114,101,102,115,47,115,116,97,115,104],[114,101,102,115,47,114,101,109,111,116,101,115,47,111,47,109],[114,101,102,115,47,104,101,97,100,115,47,100]]) (by kernel_rfl)
 exact r
theorem aJy (X:PF S):aj2 S 1 (.ref 290) aqw:=by
 have hb:=aXM X
 refine fn_ X (s:=(atS top 21)) 290 [] 0 (q:="_law_names") (dV:=.none) (pm:="law_ji0035_01") (t:=549) (cd:=289) (dv:=[]) (dvs:=[]) (fun P=>by kernel_rfl) (fun P=>by kernel_rfl) (by kernel_rfl) (fun us hu s hs=>?_) (fun W=>by rfl) hb (fun c e=>nomatch e)
 obtain rfl:us=[]:=List.length_eq_zero_iff.mp hu
 exact BindsTo.of_eq (by kernel_rfl)
noncomputable def avU:M MF:=
 (aju (aqi (ret (List.map MV.bytes [[114,101,102,115,47,104,101,97,100,115,47],[114,101,102,115,47],[],[114,101,102,115,47,116,97,103,115,47,120],[114,101,102,115,47,110]]))))
noncomputable def aze:List MV→M MV:=fnM 0 0 avU
theorem aKK (X:PF S):aj1 S ⟨ajd (atS top 22),[],none⟩ 0 (aja (atS top 22)) avU:=by
 have r:=aXG (S:=S) (g:=⟨ajd (atS top 22),[],none⟩) (d:=0) (b:=aja (atS top 22)) (bs:=[[114,101,102,115,47,104,101,97,100,115,47],[114,101,102,115,47],[],[114,101,102,115,47,116,97,103,115,47,120],[114,101,102,115,47,110]]) (by kernel_rfl)
 exact r
theorem aK2 (X:PF S):aj2 S 1 (.ref 297) aze:=by
 have hb:=aKK X
 refine fn_ X (s:=(atS top 22)) 297 [] 0 (q:="_law_fronts") (dV:=.none) (pm:="law_ji0035_01") (t:=549) (cd:=296) (dv:=[]) (dvs:=[]) (fun P=>by kernel_rfl) (fun P=>by kernel_rfl) (by kernel_rfl) (fun us hu s hs=>?_) (fun W=>by rfl) hb (fun c e=>nomatch e)
 obtain rfl:us=[]:=List.length_eq_zero_iff.mp hu
 exact BindsTo.of_eq (by kernel_rfl)
noncomputable def avT:M MF:=
 (aju (aqi (ret (List.map MV.bytes [[97],[120,45,49],[47],[47],[47,98],[46],[46,108,111,99,107],[108,111,99,107],[64],[123],[64,123],[46,46],[195,169],[45],[93],[125],[98],[47,99],[46,100],[47,46],[92],[32],[126],[94],[58],[63],[42],[91],[127]]))))
noncomputable def ajJ:List MV→M MV:=fnM 0 0 avT
theorem aKJ (X:PF S):aj1 S ⟨ajd (atS top 23),[],none⟩ 0 (aja (atS top 23)) avT:=by
 have r:=aXG (S:=S) (g:=⟨ajd (atS top 23),[],none⟩) (d:=0) (b:=aja (atS top 23)) (bs:=[[97],[120,45,49],[47],[47],[47,98],[46],[46,108,111,99,107],[108,111,99,107],[64],[123],[64,123],[46,46],[195,169],[45],[93],[125],[98],[47,99],[46,100],[47,46],[92],[32],[126],[94],[58],[63],[42],[91],[127]]) (by kernel_rfl)
 exact r
theorem akQ (X:PF S):aj2 S 1 (.ref 304) ajJ:=by
 have hb:=aKJ X
 refine fn_ X (s:=(atS top 23)) 304 [] 0 (q:="_law_pieces") (dV:=.none) (pm:="law_ji0035_01") (t:=549) (cd:=303) (dv:=[]) (dvs:=[]) (fun P=>by kernel_rfl) (fun P=>by kernel_rfl) (by kernel_rfl) (fun us hu s hs=>?_) (fun W=>by rfl) hb (fun c e=>nomatch e)
 obtain rfl:us=[]:=List.length_eq_zero_iff.mp hu
 exact BindsTo.of_eq (by kernel_rfl)
noncomputable def ax4:M MF:=
 (aju (aqi (aj0 (ajs (ret (MV.bytes [49])) (ret (MV.int 40)) aJo) (aj0 (ajs (ret (MV.bytes [97,98])) (ret (MV.int 20)) aJo) (aj0 (ajs (ret (MV.bytes [70,48])) (ret (MV.int 20)) aJo) (aj0 (ajs (ret (MV.bytes [48])) (ret (MV.int 40)) aJo) (aj0 (ajs (ret (MV.bytes [99])) (ret (MV.int 64)) aJo) (aj0 (ret (MV.bytes [114,101,102,58,32,114,101,102,115,47,104,101,97,100,115,47,97])) (aj0 (ret (MV.bytes [114,101,102,58,32,72,69,65,68])) (aj0 (ajs (ret (MV.bytes [49])) (ret (MV.int 39)) aJo) (aj0 (ajs (ret (MV.bytes [103])) (ajs (ret (MV.bytes [49])) (ret (MV.int 39)) aJo) akc) (aj0 (ret (MV.bytes [])) (aj0 (ret (MV.bytes [114,101,102,58,72,69,65,68])) (ret []))))))))))))))
noncomputable def ajB:List MV→M MV:=fnM 0 0 ax4
set_option maxHeartbeats 2000000 in
theorem aKI (X:PF S):aj1 S ⟨ajd (atS top 24),[],none⟩ 0 (aja (atS top 24)) ax4:=by
 refine aj1.last ?_
 refine aj9.ret1 ?_
 refine azw (by kernel_rfl) ?_
 refine ajw.cons ?_ ?_ TT
 ·exact aj5.bin aj5.cBytes aj5.cInt aj4.mul
 refine ajw.cons ?_ ?_ TT
 ·exact aj5.bin aj5.cBytes aj5.cInt aj4.mul
 refine ajw.cons ?_ ?_ TT
 ·exact aj5.bin aj5.cBytes aj5.cInt aj4.mul
 refine ajw.cons ?_ ?_ TT
 ·exact aj5.bin aj5.cBytes aj5.cInt aj4.mul
 refine ajw.cons ?_ ?_ TT
 ·exact aj5.bin aj5.cBytes aj5.cInt aj4.mul
 refine ajw.cons aj5.cBytes ?_ TT
 refine ajw.cons aj5.cBytes ?_ TT
 refine ajw.cons ?_ ?_ TT
 ·exact aj5.bin aj5.cBytes aj5.cInt aj4.mul
 refine ajw.cons ?_ ?_ TT
 ·refine aj5.bin aj5.cBytes ?_ aj4.add
  exact aj5.bin aj5.cBytes aj5.cInt aj4.mul
 exact l2_ TT aj5.cBytes aj5.cBytes
theorem akP (X:PF S):aj2 S 1 (.ref 311) ajB:=by
 have hb:=aKI X
 refine fn_ X (s:=(atS top 24)) 311 [] 0 (q:="_law_values") (dV:=.none) (pm:="law_ji0035_01") (t:=549) (cd:=310) (dv:=[]) (dvs:=[]) (fun P=>by kernel_rfl) (fun P=>by kernel_rfl) (by kernel_rfl) (fun us hu s hs=>?_) (fun W=>by rfl) hb (fun c e=>nomatch e)
 obtain rfl:us=[]:=List.length_eq_zero_iff.mp hu
 exact BindsTo.of_eq (by kernel_rfl)
noncomputable def axL:M MF:=
 (ajc (bnd (aka (aj0 (aqi (ret [])) (aj0 (ret (MV.int 0)) (aj0 (ret (MV.bool false)) (ret []))))) (azm fun xs=>gE xs 3 (bnd ((ajg (ajD 4) (ajg (ajD 3) (ajg (ajD 2) aqj))) xs.reverse) fun _=>ret MF.next)))
 (ajc (bnd (bnd (getL 0) aq7) fun xs=>aqu xs (ajD 5) (ajc (ifM (ifM (ajh (getL 5) (ret (MV.int 32)) mLt aj3) (ret true) (ifM (ajh (getL 5) (aka (aj0 (ret (MV.int 32)) (aj0 (ret (MV.int 42)) (aj0 (ret (MV.int 58)) (aj0 (ret (MV.int 63)) (aj0 (ret (MV.int 91)) (aj0 (ret (MV.int 92)) (aj0 (ret (MV.int 94)) (aj0 (ret (MV.int 126)) (aj0 (ret (MV.int 127)) (ret []))))))))))) mIn aj3) (ret true) (ret false))) (aju (ret (MV.bool false))) (ret MF.next))
 (ajc (ifM (ajh (getL 5) (ret (MV.int 47)) mEq aj3) (ajc (ifM (ifM (ajh (aje (getL 2) (bnd (ret (MV.int 5)) aJd) (ret MV.none)) (aqi (aj0 (ret (MV.int 46)) (aj0 (ret (MV.int 108)) (aj0 (ret (MV.int 111)) (aj0 (ret (MV.int 99)) (aj0 (ret (MV.int 107)) (ret []))))))) mEq aj3) (ret true) (ifM (ifM (ajh (getL 2) (aqi (ret [])) mEq aj3) (ifM (aKU (bnd (getL 1) aj3)) (ret true) (ret false)) (ret false)) (ret true) (ret false))) (aju (ret (MV.bool false))) (ret MF.next))
 (bnd (aka (aj0 (aqi (ret [])) (aj0 (orV (getL 4) (ajs (getL 2) (aqi (ret [])) mNe)) (ret [])))) (azm fun xs=>gE xs 2 (bnd ((ajg (ajD 4) (ajg (ajD 2) aqj)) xs.reverse) fun _=>ret MF.next)))) (ifM (ifM (ajh (getL 5) (ret (MV.int 46)) mEq aj3) (ifM (ifM (ajh (getL 2) (aqi (ret [])) mEq aj3) (ret true) (ifM (ajh (getL 3) (ret (MV.int 46)) mEq aj3) (ret true) (ret false))) (ret true) (ret false)) (ret false)) (aju (ret (MV.bool false))) (ifM (ifM (ajh (getL 5) (ret (MV.int 123)) mEq aj3) (ifM (ajh (getL 3) (ret (MV.int 64)) mEq aj3) (ret true) (ret false)) (ret false)) (aju (ret (MV.bool false))) (aqc (ajs (getL 2) (aqi (aj0 (getL 5) (ret []))) akc) 2))))
 (aqc (getL 5) 3))))
 (aju (bZx (getL 4) (bZx (ajs (getL 2) (aqi (ret [])) mNe) (bZx (ajs (getL 3) (ret (MV.int 46)) mNe) (ajs (aje (getL 2) (bnd (ret (MV.int 5)) aJd) (ret MV.none)) (aqi (aj0 (ret (MV.int 46)) (aj0 (ret (MV.int 108)) (aj0 (ret (MV.int 111)) (aj0 (ret (MV.int 99)) (aj0 (ret (MV.int 107)) (ret []))))))) mNe)))))))
noncomputable def aqx:List MV→M MV:=fnM 2 6 axL
set_option maxHeartbeats 2000000 in
theorem aXN (X:PF S):aj1 S ⟨ajd (atS top 25),["name","loose","part","last","slash","sign"],none⟩ 0 (aja (atS top 25)) axL:=by
 refine aj1.cons ?_ ?_
 ·refine aj9.assignSwap (names:=["part","last","slash"]) ?_ (ajF.cons (aZJ 4 TT) (ajF.cons (aZJ 3 TT) (ajF.cons (aZJ 2 TT) ajF.nil))) TT (bzO fun e=>by kernel_rfl)
  refine aqY (by kernel_rfl) ?_
  refine ajw.cons ?_ ?_ TT
  ·exact azw (by kernel_rfl) ajw.nil
  exact l2_ TT aj5.cInt aj5.cBool
 refine aj1.cons ?_ ?_
 ·refine aj9.forL ?_ (aqq 5 TT) ?_ TT (fun _ _=>rfl)
  ·exact ak9.val (aj6 0 TT) aqn.all
  refine aj1.cons ?_ ?_
  ·refine aj9.ife ?_ ?_ aj1.nil
   ·refine ajf.bop ?_
    refine aj8.or ?_ ?_
    ·exact ajf.cmp (aj6 5 TT) aj5.cInt aj4.lt TB.truth (Eq.refl false)
    refine aj8.or ?_ aj8.orNil
    refine ajf.cmp (aj6 5 TT) ?_ aj4.isIn TB.truth (Eq.refl false)
    refine aqY (by kernel_rfl) ?_
    refine ajw.cons aj5.cInt ?_ TT
    refine ajw.cons aj5.cInt ?_ TT
    refine ajw.cons aj5.cInt ?_ TT
    refine ajw.cons aj5.cInt ?_ TT
    refine ajw.cons aj5.cInt ?_ TT
    refine ajw.cons aj5.cInt ?_ TT
    refine ajw.cons aj5.cInt ?_ TT
    exact l2_ TT aj5.cInt aj5.cInt
   refine aj1.last ?_
   exact aj9.ret1 aj5.cBool
  refine aj1.cons ?_ ?_
  ·refine aj9.ife ?_ ?_ ?_
   ·exact ajf.cmp (aj6 5 TT) aj5.cInt aj4.eq TB.truth (Eq.refl false)
   ·refine aj1.cons ?_ ?_
    ·refine aj9.ife ?_ ?_ aj1.nil
     ·refine ajf.bop ?_
      refine aj8.or ?_ ?_
      ·refine ajf.cmp ?_ ?_ aj4.eq TB.truth (Eq.refl false)
       ·refine aj5.slice (aj6 2 TT) ?_ aqB.none
        refine aqB.some ?_
        exact aj5.un aj5.cInt azO.neg
       refine azw (by kernel_rfl) ?_
       refine ajw.cons aj5.cInt ?_ TT
       refine ajw.cons aj5.cInt ?_ TT
       refine ajw.cons aj5.cInt ?_ TT
       exact l2_ TT aj5.cInt aj5.cInt
      refine aj8.or ?_ aj8.orNil
      refine ajf.bop ?_
      refine aj8.and ?_ ?_
      ·refine ajf.cmp (aj6 2 TT) ?_ aj4.eq TB.truth (Eq.refl false)
       exact azw (by kernel_rfl) ajw.nil
      refine aj8.and ?_ aj8.andNil
      refine ajf.not ?_
      exact ajf.val (aj6 1 TT) TB.truth (fun _ _=>rfl)
     refine aj1.last ?_
     exact aj9.ret1 aj5.cBool
    refine aj1.last ?_
    refine aj9.assignSwap (names:=["part","slash"]) ?_ (ajF.cons (aZJ 4 TT) (ajF.cons (aZJ 2 TT) ajF.nil)) TT (bzO fun e=>by kernel_rfl)
    refine aqY (by kernel_rfl) ?_
    refine l2_ TT ?_ ?_
    ·exact azw (by kernel_rfl) ajw.nil
    refine aj5.bop ?_
    refine az2.or (aj6 4 TT) TB.truth ?_
    refine az2.one ?_
    refine aj5.cmp (aj6 2 TT) ?_ aj4.ne (Eq.refl false)
    exact azw (by kernel_rfl) ajw.nil
   refine aj1.last ?_
   refine aj9.ife ?_ ?_ ?_
   ·refine ajf.bop ?_
    refine aj8.and ?_ ?_
    ·exact ajf.cmp (aj6 5 TT) aj5.cInt aj4.eq TB.truth (Eq.refl false)
    refine aj8.and ?_ aj8.andNil
    refine ajf.bop ?_
    refine aj8.or ?_ ?_
    ·refine ajf.cmp (aj6 2 TT) ?_ aj4.eq TB.truth (Eq.refl false)
     exact azw (by kernel_rfl) ajw.nil
    refine aj8.or ?_ aj8.orNil
    exact ajf.cmp (aj6 3 TT) aj5.cInt aj4.eq TB.truth (Eq.refl false)
   ·refine aj1.last ?_
    exact aj9.ret1 aj5.cBool
   refine aj1.last ?_
   refine aj9.ife ?_ ?_ ?_
   ·refine ajf.bop ?_
    refine aj8.and ?_ ?_
    ·exact ajf.cmp (aj6 5 TT) aj5.cInt aj4.eq TB.truth (Eq.refl false)
    refine aj8.and ?_ aj8.andNil
    exact ajf.cmp (aj6 3 TT) aj5.cInt aj4.eq TB.truth (Eq.refl false)
   ·refine aj1.last ?_
    exact aj9.ret1 aj5.cBool
   refine aj1.last ?_
   refine azY 2 TT ?_
   refine aj5.bin (aj6 2 TT) ?_ aj4.add
   refine azw (by kernel_rfl) ?_
   exact l1_ TT (aj6 5 TT)
  refine aj1.last ?_
  exact azY 3 TT (aj6 5 TT)
 refine aj1.last ?_
 refine aj9.ret1 ?_
 refine aj5.bop ?_
 refine az2.and (aj6 4 TT) TB.truth ?_
 refine az2.and ?_ TB.truth ?_
 ·refine aj5.cmp (aj6 2 TT) ?_ aj4.ne (Eq.refl false)
  exact azw (by kernel_rfl) ajw.nil
 refine az2.and ?_ TB.truth ?_
 ·exact aj5.cmp (aj6 3 TT) aj5.cInt aj4.ne (Eq.refl false)
 refine az2.one ?_
 refine aj5.cmp ?_ ?_ aj4.ne (Eq.refl false)
 ·refine aj5.slice (aj6 2 TT) ?_ aqB.none
  refine aqB.some ?_
  exact aj5.un aj5.cInt azO.neg
 refine azw (by kernel_rfl) ?_
 refine ajw.cons aj5.cInt ?_ TT
 refine ajw.cons aj5.cInt ?_ TT
 refine ajw.cons aj5.cInt ?_ TT
 exact l2_ TT aj5.cInt aj5.cInt
theorem aJz (X:PF S):aj2 S 1 (.ref 318) aqx:=by
 have hb:=aXN X
 refine fn_ X (s:=(atS top 25)) 318 ["name","loose","part","last","slash","sign"] 2 (q:="_law_named") (dV:=.none) (pm:="law_ji0035_01") (t:=549) (cd:=317) (dv:=[]) (dvs:=[]) (fun P=>by kernel_rfl) (fun P=>by kernel_rfl) (by kernel_rfl) (fun us hu s hs=>?_) (fun W=>by rfl) hb (fun c e=>nomatch e)
 refine azD (aXt hu) fun u0 u1 e1_=>?_;subst e1_
 exact BindsTo.of_eq (by kernel_rfl)
noncomputable def axK:M MF:=
 (ajc (ifM (ifM (ajh (getL 0) (ret (MV.bytes [72,69,65,68])) mEq aj3) (ret true) (ifM (ajh (getL 0) (ret (MV.bytes [114,101,102,115,47,115,116,97,115,104])) mEq aj3) (ret true) (ret false))) (aju (ret (MV.bool true))) (ret MF.next))
 (aju (bZx (ajs (aje (getL 0) (ret MV.none) (ret (MV.int 5))) (ret (MV.bytes [114,101,102,115,47])) mEq) (bnd (aj0 (aje (getL 0) (ret (MV.int 5)) (ret MV.none)) (aj0 (ret (MV.bool true)) (ret []))) aqx))))
noncomputable def aq5:List MV→M MV:=fnM 1 1 axK
set_option maxHeartbeats 2000000 in
theorem aXL (X:PF S):aj1 S ⟨ajd (atS top 26),["name"],none⟩ 1 (aja (atS top 26)) axK:=by
 refine aj1.cons ?_ ?_
 ·refine aj9.ife ?_ ?_ aj1.nil
  ·refine ajf.bop ?_
   refine aj8.or ?_ ?_
   ·exact ajf.cmp (aj6 0 TT) aj5.cBytes aj4.eq TB.truth (Eq.refl false)
   refine aj8.or ?_ aj8.orNil
   exact ajf.cmp (aj6 0 TT) aj5.cBytes aj4.eq TB.truth (Eq.refl false)
  refine aj1.last ?_
  exact aj9.ret1 aj5.cBool
 refine aj1.last ?_
 refine aj9.ret1 ?_
 refine aj5.bop ?_
 refine az2.and ?_ TB.truth ?_
 ·refine aj5.cmp ?_ aj5.cBytes aj4.eq (Eq.refl false)
  refine aj5.slice (aj6 0 TT) aqB.none ?_
  exact aqB.some aj5.cInt
 refine az2.one ?_
 refine ajP (aJ7 X) TT ?_ (aJz X) TT
 refine l2_ TT ?_ aj5.cBool
 refine aj5.slice (aj6 0 TT) ?_ aqB.none
 exact aqB.some aj5.cInt
theorem aJx (X:PF S):aj2 S 2 (.ref 325) aq5:=by
 have hb:=aXL X
 refine fn_ X (s:=(atS top 26)) 325 ["name"] 1 (q:="_law_right") (dV:=.none) (pm:="law_ji0035_01") (t:=549) (cd:=324) (dv:=[]) (dvs:=[]) (fun P=>by kernel_rfl) (fun P=>by kernel_rfl) (by kernel_rfl) (fun us hu s hs=>?_) (fun W=>by rfl) hb (fun c e=>nomatch e)
 obtain ⟨u0,rfl⟩:=aXu hu
 exact BindsTo.of_eq (by kernel_rfl)
noncomputable def aQF:M MF:=
 (ajc (aqc (azo (.list [])) 2)
 (ajc (bnd (bnd (aj0 (ret (MV.int 5)) (ret [])) axB) fun xs=>aqu xs (ajD 3) (ajc (axO (ajk aXv (getL 2) (aj0 (getL 1) (ret [])) ako))
 (ajc (aqc (ajk ax9 (getL 0) (aj0 (getL 1) (ret [])) axe) 4)
 (ajc (ifM (ajh (getL 4) (ret MV.none) azu aj3) (aju (aka (aj0 (bnd (getL 2) ajO) (aj0 (ret MV.none) (ret []))))) (ret MF.next))
 (ajc (ifM (ajh (aje (getL 4) (ret MV.none) (ret (MV.int 5))) (ret (MV.bytes [114,101,102,58,32])) mNe aj3) (aju (aka (aj0 (bnd (getL 2) ajO) (aj0 (getL 4) (ret []))))) (ret MF.next))
 (aqc (aje (getL 4) (ret (MV.int 5)) (ret MV.none)) 1))))))
 (ajc (axO (ajk aXv (getL 2) (aj0 (getL 1) (ret [])) ako))
 (aju (ifM (ajh (ajk ax9 (getL 0) (aj0 (getL 1) (ret [])) axe) (ret MV.none) azu aj3) (aka (aj0 (bnd (getL 2) ajO) (aj0 (ret MV.none) (ret [])))) (aka (aj0 (ret MV.none) (aj0 (ret MV.none) (ret [])))))))))
noncomputable def aqt:List MV→M MV:=fnM 2 5 aQF
set_option maxHeartbeats 2000000 in
theorem bjg (X:PF S):aj1 S ⟨ajd (atS top 27),["held","name","names","turn","value"],none⟩ 0 (aja (atS top 27)) aQF:=by
 refine aj1.cons ?_ ?_
 ·exact azY 2 TT aj5.listNew
 refine aj1.cons ?_ ?_
 ·refine aj9.forL ?_ (aqq 3 TT) ?_ TT (fun _ _=>rfl)
  ·refine bjU (aXT X) TT ?_
   exact l1_ TT aj5.cInt
  refine aj1.cons ?_ ?_
  ·refine aj9.expr ?_ TT
   refine ajQ ajH.append aj2.append TT (aj6 2 TT) ?_
   exact l1_ TT (aj6 1 TT)
  refine aj1.cons ?_ ?_
  ·refine azY 4 TT ?_
   refine ajQ ajH.dictGet aj2.dictGet TT (aj6 0 TT) ?_
   exact l1_ TT (aj6 1 TT)
  refine aj1.cons ?_ ?_
  ·refine aj9.ife ?_ ?_ aj1.nil
   ·exact ajf.cmp (aj6 4 TT) aj5.cNone aj4.isNone TB.truth (Eq.refl false)
   refine aj1.last ?_
   refine aj9.ret1 ?_
   refine aqY (by kernel_rfl) ?_
   refine l2_ TT ?_ aj5.cNone
   exact aj5.freeze (aj6 2 TT)
  refine aj1.cons ?_ ?_
  ·refine aj9.ife ?_ ?_ aj1.nil
   ·refine ajf.cmp ?_ aj5.cBytes aj4.ne TB.truth (Eq.refl false)
    refine aj5.slice (aj6 4 TT) aqB.none ?_
    exact aqB.some aj5.cInt
   refine aj1.last ?_
   refine aj9.ret1 ?_
   refine aqY (by kernel_rfl) ?_
   refine l2_ TT ?_ (aj6 4 TT)
   exact aj5.freeze (aj6 2 TT)
  refine aj1.last ?_
  refine azY 1 TT ?_
  refine aj5.slice (aj6 4 TT) ?_ aqB.none
  exact aqB.some aj5.cInt
 refine aj1.cons ?_ ?_
 ·refine aj9.expr ?_ TT
  refine ajQ ajH.append aj2.append TT (aj6 2 TT) ?_
  exact l1_ TT (aj6 1 TT)
 refine aj1.last ?_
 refine aj9.ret1 ?_
 refine aj5.ife ?_ ?_ ?_
 ·refine ajf.cmp ?_ aj5.cNone aj4.isNone TB.truth (Eq.refl false)
  refine ajQ ajH.dictGet aj2.dictGet TT (aj6 0 TT) ?_
  exact l1_ TT (aj6 1 TT)
 ·refine aqY (by kernel_rfl) ?_
  refine l2_ TT ?_ aj5.cNone
  exact aj5.freeze (aj6 2 TT)
 refine aqY (by kernel_rfl) ?_
 exact l2_ TT aj5.cNone aj5.cNone
theorem avu (X:PF S):aj2 S 1 (.ref 332) aqt:=by
 have hb:=bjg X
 refine fn_ X (s:=(atS top 27)) 332 ["held","name","names","turn","value"] 2 (q:="_law_walk") (dV:=.none) (pm:="law_ji0035_01") (t:=549) (cd:=331) (dv:=[]) (dvs:=[]) (fun P=>by kernel_rfl) (fun P=>by kernel_rfl) (by kernel_rfl) (fun us hu s hs=>?_) (fun W=>by rfl) hb (fun c e=>nomatch e)
 refine azD (aXt hu) fun u0 u1 e2_=>?_;subst e2_
 exact BindsTo.of_eq (by kernel_rfl)
noncomputable def aQE:M MF:=
 (ajc (aqc (azo (.dict [])) 3)
 (ajc (bnd (bnd (getL 0) aq7) fun xs=>aqu xs (ajD 4) (ifM (ajh (getL 4) (getL 1) mNe aj3) (az9 (ajs (getL 0) (getL 4) ajG) (getL 3) (getL 4) aQX) (ret MF.next)))
 (ajc (ifM (ajh (getL 2) (ret MV.none) ajI aj3) (az9 (getL 2) (getL 3) (getL 1) aQX) (ret MF.next))
 (aju (bnd (getL 3) ajO)))))
noncomputable def aqR:List MV→M MV:=fnM 3 5 aQE
set_option maxHeartbeats 2000000 in
theorem bjf (X:PF S):aj1 S ⟨ajd (atS top 28),["held","name","value","kept","key"],none⟩ 0 (aja (atS top 28)) aQE:=by
 refine aj1.cons ?_ ?_
 ·exact azY 3 TT aj5.dictNew
 refine aj1.cons ?_ ?_
 ·refine aj9.forL ?_ (aqq 4 TT) ?_ TT (fun _ _=>rfl)
  ·exact ak9.val (aj6 0 TT) aqn.all
  refine aj1.last ?_
  refine aj9.ife ?_ ?_ aj1.nil
  ·exact ajf.cmp (aj6 4 TT) (aj6 1 TT) aj4.ne TB.truth (Eq.refl false)
  refine aj1.last ?_
  refine aj9.setItem ?_ (aj6 3 TT) (aj6 4 TT) azb.dictSet TT
  exact akq TT (aj6 0 TT) (aj6 4 TT)
 refine aj1.cons ?_ ?_
 ·refine aj9.ife ?_ ?_ aj1.nil
  ·exact ajf.cmp (aj6 2 TT) aj5.cNone aj4.isNotNone TB.truth (Eq.refl false)
  refine aj1.last ?_
  exact aj9.setItem (aj6 2 TT) (aj6 3 TT) (aj6 1 TT) azb.dictSet TT
 refine aj1.last ?_
 refine aj9.ret1 ?_
 exact aj5.freeze (aj6 3 TT)
theorem aQx (X:PF S):aj2 S 1 (.ref 339) aqR:=by
 have hb:=bjf X
 refine fn_ X (s:=(atS top 28)) 339 ["held","name","value","kept","key"] 3 (q:="_law_with") (dV:=.none) (pm:="law_ji0035_01") (t:=549) (cd:=338) (dv:=[]) (dvs:=[]) (fun P=>by kernel_rfl) (fun P=>by kernel_rfl) (by kernel_rfl) (fun us hu s hs=>?_) (fun W=>by rfl) hb (fun c e=>nomatch e)
 refine bqc (bJB hu) fun u0 u1 u2 e3_=>?_;subst e3_
 exact BindsTo.of_eq (by kernel_rfl)
noncomputable def aKj:M MF:=
 (ajc (bnd (bnd (aj0 (getL 0) (aj0 (getL 2) (ret []))) aqt) fun a=>bnd (azm (fun xs=>gE xs 2 ((ajg (ajD 6) (ajg (ajD 7) aqj)) xs)) a) fun _=>ret MF.next)
 (ajc (ifM (ifM (ifM (ajh (getL 1) (ret (MV.int 6)) mEq aj3) (ret true) (ifM (ajh (getL 1) (ret (MV.int 7)) mEq aj3) (ret true) (ret false))) (ifM (ajh (getL 6) (ret MV.none) azu aj3) (ret true) (ret false)) (ret false)) (aju (aka (aj0 (ret (MV.str "loop")) (aj0 (getL 0) (ret []))))) (ret MF.next))
 (ajc (ifM (ajh (getL 1) (ret (MV.int 6)) mEq aj3) (aju (aka (aj0 (aka (aj0 (getL 6) (aj0 (getL 7) (ret [])))) (aj0 (getL 0) (ret []))))) (ret MF.next))
 (ajc (ifM (ajh (getL 1) (ret (MV.int 7)) mEq aj3) (aju (aka (aj0 (ifM (ajh (getL 7) (ret MV.none) azu aj3) (ret (MV.str "none")) (getL 7)) (aj0 (getL 0) (ret []))))) (ret MF.next))
 (ajc (ifM (ajh (getL 1) (ret (MV.int 8)) mEq aj3) (aju (aka (aj0 (ajs (getL 2) (getL 0) mIn) (aj0 (getL 0) (ret []))))) (ret MF.next))
 (ajc (ifM (ifM (ajh (getL 1) (ret (MV.int 4)) mEq aj3) (ret true) (ifM (ajh (getL 1) (ret (MV.int 5)) mEq aj3) (ret true) (ret false))) (aju (aka (aj0 (ret MV.none) (aj0 (bnd (aj0 (getL 0) (aj0 (getL 2) (aj0 (ajs (ret (MV.bytes [114,101,102,58,32])) (getL 5) akc) (ret [])))) aqR) (ret []))))) (ret MF.next))
 (ajc (ifM (ifM (ajh (getL 1) (ret (MV.int 3)) mNe aj3) (ifM (ajh (getL 3) (aje (bnd (ret []) ajB) (ret MV.none) (ret (MV.int 7))) ax6 aj3) (ret true) (ret false)) (ret false)) (aju (aka (aj0 (ret (MV.str "value")) (aj0 (getL 0) (ret []))))) (ret MF.next))
 (ajc (ifM (ifM (ifM (ajh (getL 1) (ret (MV.int 1)) mEq aj3) (ret true) (ifM (ajh (getL 1) (ret (MV.int 3)) mEq aj3) (ret true) (ret false))) (ifM (ajh (getL 4) (ret MV.none) ajI aj3) (ifM (ajh (ajk ax9 (getL 0) (aj0 (getL 2) (aj0 (ajs (ret (MV.bytes [48])) (ret (MV.int 40)) aJo) (ret []))) axe) (getL 4) mNe aj3) (ret true) (ret false)) (ret false)) (ret false)) (aju (aka (aj0 (ret (MV.bool false)) (aj0 (getL 0) (ret []))))) (ret MF.next))
 (ajc (ifM (ifM (ajh (getL 1) (ret (MV.int 2)) mEq aj3) (ifM (ajh (getL 2) (getL 0) mIn aj3) (ret true) (ret false)) (ret false)) (aju (aka (aj0 (ret (MV.bool false)) (aj0 (getL 0) (ret []))))) (ret MF.next))
 (ajc (ifM (ifM (ajh (getL 1) (ret (MV.int 3)) mNe aj3) (ifM (aKU (bnd (bnd (aj0 (getL 2) (ret [])) aq5) aj3)) (ret true) (ret false)) (ret false)) (aju (aka (aj0 (ret (MV.str "name")) (aj0 (getL 0) (ret []))))) (ret MF.next))
 (aju (aka (aj0 (ifM (ajh (getL 1) (ret (MV.int 0)) mEq aj3) (ret MV.none) (ret (MV.bool true))) (aj0 (bnd (aj0 (getL 0) (aj0 (getL 2) (aj0 (ifM (ajh (getL 1) (ret (MV.int 3)) mEq aj3) (ret MV.none) (getL 3)) (ret [])))) aqR) (ret [])))))))))))))))
noncomputable def axp:List MV→M MV:=fnM 6 8 aKj
set_option maxHeartbeats 2000000 in
theorem bzo (X:PF S):aj1 S ⟨ajd (atS top 29),["held","kind","name","value","old","other","names","end"],none⟩ 2 (aja (atS top 29)) aKj:=by
 refine aj1.cons ?_ ?_
 ·refine aj9.assignTup ?_ (aJ4.tup (ajF.cons (aqq 6 TT) (ajF.cons (aqq 7 TT) ajF.nil)) (fun _=>rfl) (fun _=>rfl)) TT (fun _=>rfl)
  refine ajP (axS X) TT ?_ (avu X) TT
  exact l2_ TT (aj6 0 TT) (aj6 2 TT)
 refine aj1.cons ?_ ?_
 ·refine aj9.ife ?_ ?_ aj1.nil
  ·refine ajf.bop ?_
   refine aj8.and ?_ ?_
   ·refine ajf.bop ?_
    refine aj8.or ?_ ?_
    ·exact ajf.cmp (aj6 1 TT) aj5.cInt aj4.eq TB.truth (Eq.refl false)
    refine aj8.or ?_ aj8.orNil
    exact ajf.cmp (aj6 1 TT) aj5.cInt aj4.eq TB.truth (Eq.refl false)
   refine aj8.and ?_ aj8.andNil
   exact ajf.cmp (aj6 6 TT) aj5.cNone aj4.isNone TB.truth (Eq.refl false)
  refine aj1.last ?_
  refine aj9.ret1 ?_
  refine aqY (by kernel_rfl) ?_
  exact l2_ TT aj5.cStr (aj6 0 TT)
 refine aj1.cons ?_ ?_
 ·refine aj9.ife ?_ ?_ aj1.nil
  ·exact ajf.cmp (aj6 1 TT) aj5.cInt aj4.eq TB.truth (Eq.refl false)
  refine aj1.last ?_
  refine aj9.ret1 ?_
  refine aqY (by kernel_rfl) ?_
  refine l2_ TT ?_ (aj6 0 TT)
  refine aqY (by kernel_rfl) ?_
  exact l2_ TT (aj6 6 TT) (aj6 7 TT)
 refine aj1.cons ?_ ?_
 ·refine aj9.ife ?_ ?_ aj1.nil
  ·exact ajf.cmp (aj6 1 TT) aj5.cInt aj4.eq TB.truth (Eq.refl false)
  refine aj1.last ?_
  refine aj9.ret1 ?_
  refine aqY (by kernel_rfl) ?_
  refine l2_ TT ?_ (aj6 0 TT)
  refine aj5.ife ?_ aj5.cStr (aj6 7 TT)
  exact ajf.cmp (aj6 7 TT) aj5.cNone aj4.isNone TB.truth (Eq.refl false)
 refine aj1.cons ?_ ?_
 ·refine aj9.ife ?_ ?_ aj1.nil
  ·exact ajf.cmp (aj6 1 TT) aj5.cInt aj4.eq TB.truth (Eq.refl false)
  refine aj1.last ?_
  refine aj9.ret1 ?_
  refine aqY (by kernel_rfl) ?_
  refine l2_ TT ?_ (aj6 0 TT)
  exact aj5.cmp (aj6 2 TT) (aj6 0 TT) aj4.isIn (Eq.refl false)
 refine aj1.cons ?_ ?_
 ·refine aj9.ife ?_ ?_ aj1.nil
  ·refine ajf.bop ?_
   refine aj8.or ?_ ?_
   ·exact ajf.cmp (aj6 1 TT) aj5.cInt aj4.eq TB.truth (Eq.refl false)
   refine aj8.or ?_ aj8.orNil
   exact ajf.cmp (aj6 1 TT) aj5.cInt aj4.eq TB.truth (Eq.refl false)
  refine aj1.last ?_
  refine aj9.ret1 ?_
  refine aqY (by kernel_rfl) ?_
  refine l2_ TT aj5.cNone ?_
  refine ajP (aQ2 X) TT ?_ (aQx X) TT
  refine ajw.cons (aj6 0 TT) ?_ TT
  refine l2_ TT (aj6 2 TT) ?_
  exact aj5.bin aj5.cBytes (aj6 5 TT) aj4.add
 refine aj1.cons ?_ ?_
 ·refine aj9.ife ?_ ?_ aj1.nil
  ·refine ajf.bop ?_
   refine aj8.and ?_ ?_
   ·exact ajf.cmp (aj6 1 TT) aj5.cInt aj4.ne TB.truth (Eq.refl false)
   refine aj8.and ?_ aj8.andNil
   refine ajf.cmp (aj6 3 TT) ?_ aj4.notIn TB.truth (Eq.refl false)
   refine aj5.slice ?_ aqB.none ?_
   ·exact ajP (akA X) TT ajw.nil (akP X) TT
   exact aqB.some aj5.cInt
  refine aj1.last ?_
  refine aj9.ret1 ?_
  refine aqY (by kernel_rfl) ?_
  exact l2_ TT aj5.cStr (aj6 0 TT)
 refine aj1.cons ?_ ?_
 ·refine aj9.ife ?_ ?_ aj1.nil
  ·refine ajf.bop ?_
   refine aj8.and ?_ ?_
   ·refine ajf.bop ?_
    refine aj8.or ?_ ?_
    ·exact ajf.cmp (aj6 1 TT) aj5.cInt aj4.eq TB.truth (Eq.refl false)
    refine aj8.or ?_ aj8.orNil
    exact ajf.cmp (aj6 1 TT) aj5.cInt aj4.eq TB.truth (Eq.refl false)
   refine aj8.and ?_ ?_
   ·exact ajf.cmp (aj6 4 TT) aj5.cNone aj4.isNotNone TB.truth (Eq.refl false)
   refine aj8.and ?_ aj8.andNil
   refine ajf.cmp ?_ (aj6 4 TT) aj4.ne TB.truth (Eq.refl false)
   refine ajQ ajH.dictGet aj2.dictGet TT (aj6 0 TT) ?_
   refine l2_ TT (aj6 2 TT) ?_
   exact aj5.bin aj5.cBytes aj5.cInt aj4.mul
  refine aj1.last ?_
  refine aj9.ret1 ?_
  refine aqY (by kernel_rfl) ?_
  exact l2_ TT aj5.cBool (aj6 0 TT)
 refine aj1.cons ?_ ?_
 ·refine aj9.ife ?_ ?_ aj1.nil
  ·refine ajf.bop ?_
   refine aj8.and ?_ ?_
   ·exact ajf.cmp (aj6 1 TT) aj5.cInt aj4.eq TB.truth (Eq.refl false)
   refine aj8.and ?_ aj8.andNil
   exact ajf.cmp (aj6 2 TT) (aj6 0 TT) aj4.isIn TB.truth (Eq.refl false)
  refine aj1.last ?_
  refine aj9.ret1 ?_
  refine aqY (by kernel_rfl) ?_
  exact l2_ TT aj5.cBool (aj6 0 TT)
 refine aj1.cons ?_ ?_
 ·refine aj9.ife ?_ ?_ aj1.nil
  ·refine ajf.bop ?_
   refine aj8.and ?_ ?_
   ·exact ajf.cmp (aj6 1 TT) aj5.cInt aj4.ne TB.truth (Eq.refl false)
   refine aj8.and ?_ aj8.andNil
   refine ajf.not ?_
   refine ajf.val ?_ TB.truth (fun _ _=>rfl)
   refine ajP (aJ5 X) TT ?_ (aJx X) TT
   exact l1_ TT (aj6 2 TT)
  refine aj1.last ?_
  refine aj9.ret1 ?_
  refine aqY (by kernel_rfl) ?_
  exact l2_ TT aj5.cStr (aj6 0 TT)
 refine aj1.last ?_
 refine aj9.ret1 ?_
 refine aqY (by kernel_rfl) ?_
 refine l2_ TT ?_ ?_
 ·refine aj5.ife ?_ aj5.cNone aj5.cBool
  exact ajf.cmp (aj6 1 TT) aj5.cInt aj4.eq TB.truth (Eq.refl false)
 refine ajP (aQ2 X) TT ?_ (aQx X) TT
 refine ajw.cons (aj6 0 TT) ?_ TT
 refine l2_ TT (aj6 2 TT) ?_
 refine aj5.ife ?_ aj5.cNone (aj6 3 TT)
 exact ajf.cmp (aj6 1 TT) aj5.cInt aj4.eq TB.truth (Eq.refl false)
theorem bjO (X:PF S):aj2 S 3 (.ref 346) axp:=by
 have hb:=bzo X
 refine fn_ X (s:=(atS top 29)) 346 ["held","kind","name","value","old","other","names","end"] 6 (q:="_law_due") (dV:=.none) (pm:="law_ji0035_01") (t:=549) (cd:=345) (dv:=[]) (dvs:=[]) (fun P=>by kernel_rfl) (fun P=>by kernel_rfl) (by kernel_rfl) (fun us hu s hs=>?_) (fun W=>by rfl) hb (fun c e=>nomatch e)
 refine aV6 (bKU hu) fun u0 u1 u2 u3 u4 u5 e4_=>?_;subst e4_
 exact BindsTo.of_eq (by kernel_rfl)
noncomputable def aQH:M MF:=
 (ajc (aqc (azo (.dict [])) 2)
 (ajc (bnd (bnd (getL 0) aq7) fun xs=>aqu xs (ajD 3) (ajc (aqc (ajs (bnd (aj0 (getL 0) (aj0 (getL 3) (ret []))) aqt) (ret (MV.int 1)) ajG) 4)
 (ifM (ifM (ajh (aje (getL 3) (ret MV.none) (bnd (aj0 (getL 1) (ret [])) aQL)) (getL 1) mEq aj3) (ifM (ajh (getL 4) (ret MV.none) ajI aj3) (ret true) (ret false)) (ret false)) (az9 (getL 4) (getL 2) (aje (getL 3) (bnd (aj0 (getL 1) (ret [])) aQL) (ret MV.none)) aQX) (ret MF.next))))
 (aju (bnd (getL 2) ajO))))
noncomputable def aqS:List MV→M MV:=fnM 2 5 aQH
set_option maxHeartbeats 2000000 in
theorem bji (X:PF S):aj1 S ⟨ajd (atS top 32),["held","base","ends","name","end"],none⟩ 1 (aja (atS top 32)) aQH:=by
 refine aj1.cons ?_ ?_
 ·exact azY 2 TT aj5.dictNew
 refine aj1.cons ?_ ?_
 ·refine aj9.forL ?_ (aqq 3 TT) ?_ TT (fun _ _=>rfl)
  ·exact ak9.val (aj6 0 TT) aqn.all
  refine aj1.cons ?_ ?_
  ·refine azY 4 TT ?_
   refine akq TT ?_ aj5.cInt
   refine ajP (axS X) TT ?_ (avu X) TT
   exact l2_ TT (aj6 0 TT) (aj6 3 TT)
  refine aj1.last ?_
  refine aj9.ife ?_ ?_ aj1.nil
  ·refine ajf.bop ?_
   refine aj8.and ?_ ?_
   ·refine ajf.cmp ?_ (aj6 1 TT) aj4.eq TB.truth (Eq.refl false)
    refine aj5.slice (aj6 3 TT) aqB.none ?_
    refine aqB.some ?_
    refine az6 (aQq X) TT ?_ aj2.len
    exact l1_ TT (aj6 1 TT)
   refine aj8.and ?_ aj8.andNil
   exact ajf.cmp (aj6 4 TT) aj5.cNone aj4.isNotNone TB.truth (Eq.refl false)
  refine aj1.last ?_
  refine aj9.setItem (aj6 4 TT) (aj6 2 TT) ?_ azb.dictSet TT
  refine aj5.slice (aj6 3 TT) ?_ aqB.none
  refine aqB.some ?_
  refine az6 (aQq X) TT ?_ aj2.len
  exact l1_ TT (aj6 1 TT)
 refine aj1.last ?_
 refine aj9.ret1 ?_
 exact aj5.freeze (aj6 2 TT)
theorem aQy (X:PF S):aj2 S 2 (.ref 365) aqS:=by
 have hb:=bji X
 refine fn_ X (s:=(atS top 32)) 365 ["held","base","ends","name","end"] 2 (q:="_law_ends") (dV:=.none) (pm:="law_ji0035_01") (t:=549) (cd:=364) (dv:=[]) (dvs:=[]) (fun P=>by kernel_rfl) (fun P=>by kernel_rfl) (by kernel_rfl) (fun us hu s hs=>?_) (fun W=>by rfl) hb (fun c e=>nomatch e)
 refine azD (aXt hu) fun u0 u1 e5_=>?_;subst e5_
 exact BindsTo.of_eq (by kernel_rfl)
noncomputable def aQG:M MF:=
 (aVE (ajc (ifM (ajh (getL 1) (ret (MV.int 0)) mEq aj3) (ajc (az9 (getL 3) (getL 0) (getL 2) (bkq akj))
 (aju (ret MV.none))) (ret MF.next))
 (ajc (ifM (ajh (getL 1) (ret (MV.int 1)) mEq aj3) (aju (ajk ajK (getL 0) (aj0 (getL 2) (aj0 (getL 4) (aj0 (getL 3) (ret [])))) ajY)) (ret MF.next))
 (ajc (ifM (ajh (getL 1) (ret (MV.int 2)) mEq aj3) (aju (ajk ajK (getL 0) (aj0 (getL 2) (aj0 (getL 3) (ret []))) azf)) (ret MF.next))
 (ajc (ifM (ajh (getL 1) (ret (MV.int 3)) mEq aj3) (aju (ajk ajK (getL 0) (aj0 (getL 2) (aj0 (getL 4) (ret []))) aqs)) (ret MF.next))
 (ajc (ifM (ajh (getL 1) (ret (MV.int 6)) mEq aj3) (aju (ajk ajK (getL 0) (aj0 (getL 2) (ret [])) ax3)) (ret MF.next))
 (ajc (ifM (ajh (getL 1) (ret (MV.int 7)) mEq aj3) (aju (ajs (getL 0) (getL 2) (aQM azq))) (ret MF.next))
 (ajc (ifM (ajh (getL 1) (ret (MV.int 8)) mEq aj3) (aju (ajs (getL 2) (getL 0) (bZm azH aj3))) (ret MF.next))
 (ajc (axO (ajk ajK (getL 0) (aj0 (getL 2) (aj0 (getL 5) (ret []))) ajW))
 (aju (ret MV.none)))))))))) (aq0 [(aKZ,(ret (MF.ret (MV.str "value")))),(bv6,(ret (MF.ret (MV.str "name")))),(bv7,(ret (MF.ret (MV.str "loop")))),(bzE,(ret (MF.ret (MV.str "none"))))]) (ret MF.next))
noncomputable def akk:List MV→M MV:=fnM 6 6 aQG
set_option maxHeartbeats 2000000 in
theorem bjh (X:PF S):aj1 S ⟨ajd (atS top 30),["refs","kind","name","value","old","other"],none⟩ 7 (aja (atS top 30)) aQG:=by
 refine aj1.last ?_
 refine aj9.tryE ?_ (aQo.cons (bjy X (NmB (ajR X) TT)) (aZU.retV aVz.str) (aQo.cons (bJZ X (NmG (az8 X) TT)) (aZU.retV aVz.str) (aQo.cons (bQ0 X (NmG (axm X) TT)) (aZU.retV aVz.str) (aQo.cons (bxh X (NmB (axu X) TT)) (aZU.retV aVz.str) aQo.nil)))) aj1.nil
 refine aj1.cons ?_ ?_
 ·refine aj9.ife ?_ ?_ aj1.nil
  ·exact ajf.cmp (aj6 1 TT) aj5.cInt aj4.eq TB.truth (Eq.refl false)
  refine aj1.cons ?_ ?_
  ·exact aj9.setItem (aj6 3 TT) (aj6 0 TT) (aj6 2 TT) (bZI X (aVJ X) TT) TT
  refine aj1.last ?_
  exact aj9.ret1 aj5.cNone
 refine aj1.cons ?_ ?_
 ·refine aj9.ife ?_ ?_ aj1.nil
  ·exact ajf.cmp (aj6 1 TT) aj5.cInt aj4.eq TB.truth (Eq.refl false)
  refine aj1.last ?_
  refine aj9.ret1 ?_
  refine aqP X (axk X) TT (aj6 0 TT) ?_ (akO X) TT
  refine ajw.cons (aj6 2 TT) ?_ TT
  exact l2_ TT (aj6 4 TT) (aj6 3 TT)
 refine aj1.cons ?_ ?_
 ·refine aj9.ife ?_ ?_ aj1.nil
  ·exact ajf.cmp (aj6 1 TT) aj5.cInt aj4.eq TB.truth (Eq.refl false)
  refine aj1.last ?_
  refine aj9.ret1 ?_
  refine aqP X (aKS X) TT (aj6 0 TT) ?_ (aK3 X) TT
  exact l2_ TT (aj6 2 TT) (aj6 3 TT)
 refine aj1.cons ?_ ?_
 ·refine aj9.ife ?_ ?_ aj1.nil
  ·exact ajf.cmp (aj6 1 TT) aj5.cInt aj4.eq TB.truth (Eq.refl false)
  refine aj1.last ?_
  refine aj9.ret1 ?_
  refine aqP X (avj X) TT (aj6 0 TT) ?_ (axZ X) TT
  exact l2_ TT (aj6 2 TT) (aj6 4 TT)
 refine aj1.cons ?_ ?_
 ·refine aj9.ife ?_ ?_ aj1.nil
  ·exact ajf.cmp (aj6 1 TT) aj5.cInt aj4.eq TB.truth (Eq.refl false)
  refine aj1.last ?_
  refine aj9.ret1 ?_
  refine aqP X (aZR X) TT (aj6 0 TT) ?_ (aZ9 X) TT
  exact l1_ TT (aj6 2 TT)
 refine aj1.cons ?_ ?_
 ·refine aj9.ife ?_ ?_ aj1.nil
  ·exact ajf.cmp (aj6 1 TT) aj5.cInt aj4.eq TB.truth (Eq.refl false)
  refine aj1.last ?_
  refine aj9.ret1 ?_
  exact bxE X (d:=6) (aj6 0 TT) (aj6 2 TT) (aQz X) TT (fun _ _=>rfl)
 refine aj1.cons ?_ ?_
 ·refine aj9.ife ?_ ?_ aj1.nil
  ·exact ajf.cmp (aj6 1 TT) aj5.cInt aj4.eq TB.truth (Eq.refl false)
  refine aj1.last ?_
  refine aj9.ret1 ?_
  exact aj5.cmp (aj6 2 TT) (aj6 0 TT) (inR_ X (aX4 X) TT) (Eq.refl false)
 refine aj1.cons ?_ ?_
 ·refine aj9.expr ?_ TT
  refine aqP X (avi X) TT (aj6 0 TT) ?_ (axY X) TT
  exact l2_ TT (aj6 2 TT) (aj6 5 TT)
 refine aj1.last ?_
 exact aj9.ret1 aj5.cNone
theorem aVK (X:PF S):aj2 S 8 (.ref 353) akk:=by
 have hb:=bjh X
 refine fn_ X (s:=(atS top 30)) 353 ["refs","kind","name","value","old","other"] 6 (q:="_law_told") (dV:=.none) (pm:="law_ji0035_01") (t:=549) (cd:=352) (dv:=[]) (dvs:=[]) (fun P=>by kernel_rfl) (fun P=>by kernel_rfl) (by kernel_rfl) (fun us hu s hs=>?_) (fun W=>by rfl) hb (fun c e=>nomatch e)
 refine aV6 (bKU hu) fun u0 u1 u2 u3 u4 u5 e6_=>?_;subst e6_
 exact BindsTo.of_eq (by kernel_rfl)
noncomputable def aQI:M MF:=
 (ajc (bnd (aka (aj0 axo (aj0 (ret (MV.dict [])) (ret [])))) (azm fun xs=>gE xs 2 (bnd ((ajg (ajD 2) (ajg (ajD 1) aqj)) xs.reverse) fun _=>ret MF.next)))
 (ajc (bnd (bnd (aje (getL 0) (ret MV.none) (ret (MV.int 10))) aq7) fun xs=>aqu xs (ajD 3) (ajc (bnd (bnd (aj0 (getL 3) (aj0 (ret (MV.int 9)) (ret []))) akn) fun a=>bnd (azm (fun xs=>gE xs 2 ((ajg (ajD 4) (ajg (ajD 5) aqj)) xs)) a) fun _=>ret MF.next)
 (ajc (bnd (bnd (aj0 (getL 4) (aj0 (ret (MV.int 14)) (ret []))) akn) fun a=>bnd (azm (fun xs=>gE xs 2 ((ajg (ajD 4) (ajg (ajD 6) aqj)) xs)) a) fun _=>ret MF.next)
 (ajc (bnd (bnd (aj0 (getL 4) (aj0 (ret (MV.int 11)) (ret []))) akn) fun a=>bnd (azm (fun xs=>gE xs 2 ((ajg (ajD 4) (ajg (ajD 7) aqj)) xs)) a) fun _=>ret MF.next)
 (ajc (bnd (bnd (aj0 (getL 4) (aj0 (ret (MV.int 9)) (ret []))) akn) fun a=>bnd (azm (fun xs=>gE xs 2 ((ajg (ajD 4) (ajg (ajD 8) aqj)) xs)) a) fun _=>ret MF.next)
 (ajc (aqc (ifM (ajh (getL 6) (ret (MV.int 9)) mLt aj3) (ajs (bnd (ret []) aqw) (getL 6) ajG) (ajs (bnd (ret []) aze) (ajs (getL 6) (ret (MV.int 9)) bvE) ajG)) 9)
 (ajc (bnd (bnd (aj0 (ret (MV.int 4)) (ret [])) axB) fun xs=>aqu xs (ajD 10) (ajc (ifM (ifM (ajh (getL 6) (ret (MV.int 9)) mLt aj3) (ret true) (ifM (ajh (getL 4) (ret (MV.int 0)) mEq aj3) (ret true) (ifM (ajh (getL 4) (bnd (ret (MV.int 1)) aJd) mEq aj3) (ret true) (ret false)))) (ret MF.brk) (ret MF.next))
 (ajc (bnd (bnd (aj0 (getL 4) (aj0 (ret (MV.int 48)) (ret []))) akn) fun a=>bnd (azm (fun xs=>gE xs 2 ((ajg (ajD 4) (ajg (ajD 11) aqj)) xs)) a) fun _=>ret MF.next)
 (aqc (ajs (getL 9) (ifM (ajh (getL 11) (ret (MV.int 20)) mLt aj3) (ajs (bnd (ret []) ajJ) (getL 11) ajG) (ifM (ajh (getL 11) (ret (MV.int 23)) mLt aj3) (ajs (bnd (ret []) ajJ) (ajs (ret (MV.int 20)) (ajs (getL 4) (ret (MV.int 9)) aXn) akc) ajG) (ifM (ajh (getL 11) (ret (MV.int 26)) mLt aj3) (bnd (aj0 (aqi (aj0 (ajs (getL 4) (ret (MV.int 32)) aXn) (ret []))) (ret [])) avV) (ajs (bnd (ret []) ajJ) (ajs (getL 11) (ret (MV.int 20)) aXn) ajG)))) akc) 9))))
 (ajc (aqc (bnd (aj0 (getL 9) (ret [])) ajo) 12)
 (ajc (ifM (ifM (ajh (getL 12) (bnd (aj0 (getL 9) (aj0 (ret (MV.bool false)) (ret []))) aqx) mNe aj3) (ret true) (ifM (aKU (bnd (bnd (aj0 (getL 12) (aj0 (ret (MV.typ "bool")) (ret []))) azU) aj3)) (ret true) (ret false))) (aju (ret (MV.bool false))) (ret MF.next))
 (ajc (bnd (bnd (aqi (aj0 (ajs (ajs (ret (MV.bytes [114,101,102,58,32])) (getL 9) akc) (ajs (aqi (ret (List.map MV.bytes [[],[10],[13,10],[10,13,10]]))) (ajs (getL 7) (ret (MV.int 4)) aXn) ajG) akc) (aj0 (ajs (ret (MV.bytes [114,101,102,58])) (getL 9) akc) (aj0 (getL 9) (ret []))))) aq7) fun xs=>aqu xs (ajD 13) (ajc (aqc (getL 13) 14)
 (ajc (avQ (ifM (ajh (aje (getL 14) (bnd (ret (MV.int 1)) aJd) (ret MV.none)) (ret (MV.bytes [10])) mEq aj3) (ret true) (ifM (ajh (aje (getL 14) (bnd (ret (MV.int 1)) aJd) (ret MV.none)) (ret (MV.bytes [13])) mEq aj3) (ret true) (ret false))) (aqc (aje (getL 14) (ret MV.none) (bnd (ret (MV.int 1)) aJd)) 14))
 (ajc (aVE (aqc (bnd (aj0 (getL 13) (ret [])) ajm) 15) (aq0 [(aKZ,(bnd (ajD 15 MV.none) fun _=>ret MF.next))]) (ret MF.next))
 (ifM (ajh (getL 15) (ifM (ajh (aje (getL 13) (ret MV.none) (ret (MV.int 5))) (ret (MV.bytes [114,101,102,58,32])) mEq aj3) (aje (getL 14) (ret (MV.int 5)) (ret MV.none)) (ret MV.none)) mNe aj3) (aju (ret (MV.bool false))) (ret MF.next))))))
 (ajc (avQ (ajh (aje (getL 9) (bnd (ret (MV.int 1)) aJd) (ret MV.none)) (ret (MV.bytes [47])) mEq aj3) (aqc (aje (getL 9) (ret MV.none) (bnd (ret (MV.int 1)) aJd)) 9))
 (ajc (avQ (ajh (aje (getL 9) (ret MV.none) (ret (MV.int 1))) (ret (MV.bytes [47])) mEq aj3) (aqc (aje (getL 9) (ret (MV.int 1)) (ret MV.none)) 9))
 (ajc (ifM (ifM (ajh (getL 5) (aka (aj0 (ret (MV.int 2)) (aj0 (ret (MV.int 4)) (aj0 (ret (MV.int 5)) (ret []))))) mIn aj3) (ifM (aKU (bnd (bnd (aj0 (getL 9) (ret [])) aq5) aj3)) (ret true) (ret false)) (ret false)) (aqc (ret (MV.int 0)) 5) (ret MF.next))
 (ajc (ifM (ifM (ajh (getL 5) (aka (aj0 (ret (MV.int 4)) (aj0 (ret (MV.int 5)) (ret [])))) mIn aj3) (ifM (ajh (ajs (bnd (aj0 (getL 2) (aj0 (getL 9) (ret []))) aqt) (ret (MV.int 0)) ajG) (ret MV.none) azu aj3) (ret true) (ret false)) (ret false)) (aqc (ret (MV.int 8)) 5) (ret MF.next))
 (ajc (bnd (aka (aj0 (ajs (bnd (ret []) ajB) (getL 7) ajG) (aj0 (ajs (bnd (ret []) aqw) (getL 8) ajG) (ret [])))) (azm fun xs=>gE xs 2 (bnd ((ajg (ajD 17) (ajg (ajD 16) aqj)) xs.reverse) fun _=>ret MF.next)))
 (ajc (aqc (ajs (aqi (aj0 (ret MV.none) (aj0 (ajk ax9 (getL 2) (aj0 (getL 9) (aj0 (ajs (ret (MV.bytes [48])) (ret (MV.int 40)) aJo) (ret []))) axe) (aj0 (ajs (bnd (ret []) ajB) (ajs (ajs (getL 7) (ret (MV.int 1)) akc) (ret (MV.int 11)) aXn) ajG) (ret []))))) (ajs (getL 8) (ret (MV.int 3)) aXn) ajG) 18)
 (ajc (bnd (bnd (aj0 (getL 2) (aj0 (getL 5) (aj0 (getL 9) (aj0 (getL 16) (aj0 (getL 18) (aj0 (getL 17) (ret []))))))) axp) fun a=>bnd (azm (fun xs=>gE xs 2 ((ajg (ajD 19) (ajg (ajD 20) aqj)) xs)) a) fun _=>ret MF.next)
 (ajc (aqc (bnd (aj0 (getL 1) (aj0 (getL 5) (aj0 (getL 9) (aj0 (getL 16) (aj0 (getL 18) (aj0 (getL 17) (ret []))))))) akk) 21)
 (ajc (ifM (ifM (ajh (getL 21) (getL 19) mNe aj3) (ret true) (ifM (ajh (bnd (aj0 (getL 21) (aj0 (ret (MV.typ "bool")) (ret []))) azU) (bnd (aj0 (getL 19) (aj0 (ret (MV.typ "bool")) (ret []))) azU) mNe aj3) (ret true) (ret false))) (aju (ret (MV.bool false))) (ret MF.next))
 (aqc (getL 20) 2))))))))))))))))))))
 (ajc (ifM (ifM (ajh (bnd (aj0 (ajk ajK (getL 1) (ret []) aqy) (ret [])) aq6) (bnd (aj0 (getL 2) (ret [])) aq6) mNe aj3) (ret true) (ifM (ajh (bnd (aj0 (ajk ajK (getL 1) (ret []) av4) (ret [])) aq6) (bnd (aj0 (getL 2) (ret [])) aq6) mNe aj3) (ret true) (ifM (ajh (ajk ajK (getL 1) (ret []) akl) (bnd (aj0 (getL 2) (aj0 (ret (MV.bytes [])) (ret []))) aqS) avE aj3) (ret true) (ret false)))) (aju (ret (MV.bool false))) (ret MF.next))
 (ajc (bnd (bnd (aka (aj0 (ret (MV.bytes [114,101,102,115,47,104,101,97,100,115])) (aj0 (ret (MV.bytes [114,101,102,115,47,116,97,103,115])) (ret [])))) aq7) fun xs=>aqu xs (ajD 22) (ifM (ifM (ajh (bnd (aj0 (ajk ajK (getL 1) (aj0 (getL 22) (ret [])) ax2) (ret [])) aq6) (bnd (aj0 (bnd (aj0 (getL 2) (aj0 (ajs (getL 22) (ret (MV.bytes [47])) akc) (ret []))) az0) (ret [])) aq6) mNe aj3) (ret true) (ifM (ajh (ajk ajK (getL 1) (aj0 (getL 22) (ret [])) axq) (bnd (aj0 (getL 2) (aj0 (ajs (getL 22) (ret (MV.bytes [47])) akc) (ret []))) aqS) avE aj3) (ret true) (ret false))) (aju (ret (MV.bool false))) (ret MF.next)))
 (ajc (aqc (azo (.dict [])) 23)
 (ajc (bnd (bnd (getL 2) aq7) fun xs=>aqu xs (ajD 9) (ifM (ajh (aje (ajs (getL 2) (getL 9) ajG) (ret MV.none) (ret (MV.int 5))) (ret (MV.bytes [114,101,102,58,32])) mEq aj3) (az9 (aje (ajs (getL 2) (getL 9) ajG) (ret (MV.int 5)) (ret MV.none)) (getL 23) (getL 9) aQX) (ret MF.next)))
 (aju (ajs (ajk ajK (getL 1) (ret []) aqX) (getL 23) aXo))))))))
noncomputable def bK8:List MV→M MV:=fnM 1 24 aQI
set_option maxHeartbeats 2000000 in
theorem bZ9 (X:PF S):aj1 S ⟨ajd (atS top 33),["script","refs","held","number","rest","kind","pick","what","spot","name","turn","part","right","text","plain","read","value","other","old","due","kept","told","base","links"],none⟩ 9 (aja (atS top 33)) aQI:=by
 refine aj1.cons ?_ ?_
 ·refine aj9.assignSwap (names:=["refs","held"]) ?_ (ajF.cons (aZJ 2 TT) (ajF.cons (aZJ 1 TT) ajF.nil)) TT (bzO fun e=>by kernel_rfl)
  refine aqY (by kernel_rfl) ?_
  exact l2_ TT (bjN X (NmG (axU X) TT)) aj5.dictD
 refine aj1.cons ?_ ?_
 ·refine aj9.forL ?_ (aqq 3 TT) ?_ TT (fun _ _=>rfl)
  ·refine ak9.val ?_ aqn.all
   refine aj5.slice (aj6 0 TT) aqB.none ?_
   exact aqB.some aj5.cInt
  refine aj1.cons ?_ ?_
  ·refine aj9.assignTup ?_ (aJ4.tup (ajF.cons (aqq 4 TT) (ajF.cons (aqq 5 TT) ajF.nil)) (fun _=>rfl) (fun _=>rfl)) TT (fun _=>rfl)
   refine az6 (avk X) TT ?_ aj2.divmod
   exact l2_ TT (aj6 3 TT) aj5.cInt
  refine aj1.cons ?_ ?_
  ·refine aj9.assignTup ?_ (aJ4.tup (ajF.cons (aqq 4 TT) (ajF.cons (aqq 6 TT) ajF.nil)) (fun _=>rfl) (fun _=>rfl)) TT (fun _=>rfl)
   refine az6 (avk X) TT ?_ aj2.divmod
   exact l2_ TT (aj6 4 TT) aj5.cInt
  refine aj1.cons ?_ ?_
  ·refine aj9.assignTup ?_ (aJ4.tup (ajF.cons (aqq 4 TT) (ajF.cons (aqq 7 TT) ajF.nil)) (fun _=>rfl) (fun _=>rfl)) TT (fun _=>rfl)
   refine az6 (avk X) TT ?_ aj2.divmod
   exact l2_ TT (aj6 4 TT) aj5.cInt
  refine aj1.cons ?_ ?_
  ·refine aj9.assignTup ?_ (aJ4.tup (ajF.cons (aqq 4 TT) (ajF.cons (aqq 8 TT) ajF.nil)) (fun _=>rfl) (fun _=>rfl)) TT (fun _=>rfl)
   refine az6 (avk X) TT ?_ aj2.divmod
   exact l2_ TT (aj6 4 TT) aj5.cInt
  refine aj1.cons ?_ ?_
  ·refine azY 9 TT ?_
   refine aj5.ife ?_ ?_ ?_
   ·exact ajf.cmp (aj6 6 TT) aj5.cInt aj4.lt TB.truth (Eq.refl false)
   ·refine akq TT ?_ (aj6 6 TT)
    exact ajP (aJ6 X) TT ajw.nil (aJy X) TT
   refine akq TT ?_ ?_
   ·exact ajP (aZS X) TT ajw.nil (aK2 X) TT
   exact aj5.bin (aj6 6 TT) aj5.cInt aj4.sub
  refine aj1.cons ?_ ?_
  ·refine aj9.forL ?_ (aqq 10 TT) ?_ TT (fun _ _=>rfl)
   ·refine bjU (aXT X) TT ?_
    exact l1_ TT aj5.cInt
   refine aj1.cons ?_ ?_
   ·refine aj9.ife ?_ ?_ aj1.nil
    ·refine ajf.bop ?_
     refine aj8.or ?_ ?_
     ·exact ajf.cmp (aj6 6 TT) aj5.cInt aj4.lt TB.truth (Eq.refl false)
     refine aj8.or ?_ ?_
     ·exact ajf.cmp (aj6 4 TT) aj5.cInt aj4.eq TB.truth (Eq.refl false)
     refine aj8.or ?_ aj8.orNil
     refine ajf.cmp (aj6 4 TT) ?_ aj4.eq TB.truth (Eq.refl false)
     exact aj5.un aj5.cInt azO.neg
    exact aj1.last aj9.brk
   refine aj1.cons ?_ ?_
   ·refine aj9.assignTup ?_ (aJ4.tup (ajF.cons (aqq 4 TT) (ajF.cons (aqq 11 TT) ajF.nil)) (fun _=>rfl) (fun _=>rfl)) TT (fun _=>rfl)
    refine az6 (avk X) TT ?_ aj2.divmod
    exact l2_ TT (aj6 4 TT) aj5.cInt
   refine aj1.last ?_
   refine azY 9 TT ?_
   refine aj5.bin (aj6 9 TT) ?_ aj4.add
   refine aj5.ife ?_ ?_ ?_
   ·exact ajf.cmp (aj6 11 TT) aj5.cInt aj4.lt TB.truth (Eq.refl false)
   ·refine akq TT ?_ (aj6 11 TT)
    exact ajP (akB X) TT ajw.nil (akQ X) TT
   refine aj5.ife ?_ ?_ ?_
   ·exact ajf.cmp (aj6 11 TT) aj5.cInt aj4.lt TB.truth (Eq.refl false)
   ·refine akq TT ?_ ?_
    ·exact ajP (akB X) TT ajw.nil (akQ X) TT
    refine aj5.bin aj5.cInt ?_ aj4.add
    exact aj5.bin (aj6 4 TT) aj5.cInt aj4.mod
   refine aj5.ife ?_ ?_ ?_
   ·exact ajf.cmp (aj6 11 TT) aj5.cInt aj4.lt TB.truth (Eq.refl false)
   ·refine bJk (bzy X) TT ?_ aj2.bytes
    refine l1_ TT ?_
    refine azw (by kernel_rfl) ?_
    refine l1_ TT ?_
    exact aj5.bin (aj6 4 TT) aj5.cInt aj4.mod
   refine akq TT ?_ ?_
   ·exact ajP (akB X) TT ajw.nil (akQ X) TT
   exact aj5.bin (aj6 11 TT) aj5.cInt aj4.mod
  refine aj1.cons ?_ ?_
  ·refine azY 12 TT ?_
   refine ajP (aqM X) TT ?_ (aqH X) TT
   exact l1_ TT (aj6 9 TT)
  refine aj1.cons ?_ ?_
  ·refine aj9.ife ?_ ?_ aj1.nil
   ·refine ajf.bop ?_
    refine aj8.or ?_ ?_
    ·refine ajf.cmp (aj6 12 TT) ?_ aj4.ne TB.truth (Eq.refl false)
     refine ajP (aJ7 X) TT ?_ (aJz X) TT
     exact l2_ TT (aj6 9 TT) aj5.cBool
    refine aj8.or ?_ aj8.orNil
    refine ajf.not ?_
    refine ajf.val ?_ TB.truth (fun _ _=>rfl)
    refine az6 (axl X) TT ?_ aj2.isBool
    exact l2_ TT (aj6 12 TT) (bvZ (bzz X) TT)
   refine aj1.last ?_
   exact aj9.ret1 aj5.cBool
  refine aj1.cons ?_ ?_
  ·refine aj9.forL ?_ (aqq 13 TT) ?_ TT (fun _ _=>rfl)
   ·refine ak9.val ?_ aqn.all
    refine azw (by kernel_rfl) ?_
    refine ajw.cons ?_ ?_ TT
    ·refine aj5.bin ?_ ?_ aj4.add
     ·exact aj5.bin aj5.cBytes (aj6 9 TT) aj4.add
     refine akq TT ?_ ?_
     ·exact azw (by kernel_rfl) (ajw.consts (by kernel_rfl))
     exact aj5.bin (aj6 7 TT) aj5.cInt aj4.mod
    refine l2_ TT ?_ (aj6 9 TT)
    exact aj5.bin aj5.cBytes (aj6 9 TT) aj4.add
   refine aj1.cons ?_ ?_
   ·exact azY 14 TT (aj6 13 TT)
   refine aj1.cons ?_ ?_
   ·refine aj9.whileL ?_ ?_
    ·refine ajf.bop ?_
     refine aj8.or ?_ ?_
     ·refine ajf.cmp ?_ aj5.cBytes aj4.eq TB.truth (Eq.refl false)
      refine aj5.slice (aj6 14 TT) ?_ aqB.none
      refine aqB.some ?_
      exact aj5.un aj5.cInt azO.neg
     refine aj8.or ?_ aj8.orNil
     refine ajf.cmp ?_ aj5.cBytes aj4.eq TB.truth (Eq.refl false)
     refine aj5.slice (aj6 14 TT) ?_ aqB.none
     refine aqB.some ?_
     exact aj5.un aj5.cInt azO.neg
    refine aj1.last ?_
    refine azY 14 TT ?_
    refine aj5.slice (aj6 14 TT) aqB.none ?_
    refine aqB.some ?_
    exact aj5.un aj5.cInt azO.neg
   refine aj1.cons ?_ ?_
   ·refine aj9.tryE ?_ (aQo.cons (bjy X (NmB (ajR X) TT)) (aZU.setV 15 aVz.none rfl rfl rfl) aQo.nil) aj1.nil
    refine aj1.last ?_
    refine azY 15 TT ?_
    refine ajP (azc X) TT ?_ (aza X) TT
    exact l1_ TT (aj6 13 TT)
   refine aj1.last ?_
   refine aj9.ife ?_ ?_ aj1.nil
   ·refine ajf.cmp (aj6 15 TT) ?_ aj4.ne TB.truth (Eq.refl false)
    refine aj5.ife ?_ ?_ aj5.cNone
    ·refine ajf.cmp ?_ aj5.cBytes aj4.eq TB.truth (Eq.refl false)
     refine aj5.slice (aj6 13 TT) aqB.none ?_
     exact aqB.some aj5.cInt
    refine aj5.slice (aj6 14 TT) ?_ aqB.none
    exact aqB.some aj5.cInt
   refine aj1.last ?_
   exact aj9.ret1 aj5.cBool
  refine aj1.cons ?_ ?_
  ·refine aj9.whileL ?_ ?_
   ·refine ajf.cmp ?_ aj5.cBytes aj4.eq TB.truth (Eq.refl false)
    refine aj5.slice (aj6 9 TT) ?_ aqB.none
    refine aqB.some ?_
    exact aj5.un aj5.cInt azO.neg
   refine aj1.last ?_
   refine azY 9 TT ?_
   refine aj5.slice (aj6 9 TT) aqB.none ?_
   refine aqB.some ?_
   exact aj5.un aj5.cInt azO.neg
  refine aj1.cons ?_ ?_
  ·refine aj9.whileL ?_ ?_
   ·refine ajf.cmp ?_ aj5.cBytes aj4.eq TB.truth (Eq.refl false)
    refine aj5.slice (aj6 9 TT) aqB.none ?_
    exact aqB.some aj5.cInt
   refine aj1.last ?_
   refine azY 9 TT ?_
   refine aj5.slice (aj6 9 TT) ?_ aqB.none
   exact aqB.some aj5.cInt
  refine aj1.cons ?_ ?_
  ·refine aj9.ife ?_ ?_ aj1.nil
   ·refine ajf.bop ?_
    refine aj8.and ?_ ?_
    ·refine ajf.cmp (aj6 5 TT) ?_ aj4.isIn TB.truth (Eq.refl false)
     refine aqY (by kernel_rfl) ?_
     refine ajw.cons aj5.cInt ?_ TT
     exact l2_ TT aj5.cInt aj5.cInt
    refine aj8.and ?_ aj8.andNil
    refine ajf.not ?_
    refine ajf.val ?_ TB.truth (fun _ _=>rfl)
    refine ajP (aJ5 X) TT ?_ (aJx X) TT
    exact l1_ TT (aj6 9 TT)
   refine aj1.last ?_
   exact azY 5 TT aj5.cInt
  refine aj1.cons ?_ ?_
  ·refine aj9.ife ?_ ?_ aj1.nil
   ·refine ajf.bop ?_
    refine aj8.and ?_ ?_
    ·refine ajf.cmp (aj6 5 TT) ?_ aj4.isIn TB.truth (Eq.refl false)
     refine aqY (by kernel_rfl) ?_
     exact l2_ TT aj5.cInt aj5.cInt
    refine aj8.and ?_ aj8.andNil
    refine ajf.cmp ?_ aj5.cNone aj4.isNone TB.truth (Eq.refl false)
    refine akq TT ?_ aj5.cInt
    refine ajP (axS X) TT ?_ (avu X) TT
    exact l2_ TT (aj6 2 TT) (aj6 9 TT)
   refine aj1.last ?_
   exact azY 5 TT aj5.cInt
  refine aj1.cons ?_ ?_
  ·refine aj9.assignSwap (names:=["value","other"]) ?_ (ajF.cons (aZJ 17 TT) (ajF.cons (aZJ 16 TT) ajF.nil)) TT (bzO fun e=>by kernel_rfl)
   refine aqY (by kernel_rfl) ?_
   refine l2_ TT ?_ ?_
   ·refine akq TT ?_ (aj6 7 TT)
    exact ajP (akA X) TT ajw.nil (akP X) TT
   refine akq TT ?_ (aj6 8 TT)
   exact ajP (aJ6 X) TT ajw.nil (aJy X) TT
  refine aj1.cons ?_ ?_
  ·refine azY 18 TT ?_
   refine akq TT ?_ ?_
   ·refine azw (by kernel_rfl) ?_
    refine ajw.cons aj5.cNone ?_ TT
    refine l2_ TT ?_ ?_
    ·refine ajQ ajH.dictGet aj2.dictGet TT (aj6 2 TT) ?_
     refine l2_ TT (aj6 9 TT) ?_
     exact aj5.bin aj5.cBytes aj5.cInt aj4.mul
    refine akq TT ?_ ?_
    ·exact ajP (akA X) TT ajw.nil (akP X) TT
    refine aj5.bin ?_ aj5.cInt aj4.mod
    exact aj5.bin (aj6 7 TT) aj5.cInt aj4.add
   exact aj5.bin (aj6 8 TT) aj5.cInt aj4.mod
  refine aj1.cons ?_ ?_
  ·refine aj9.assignTup ?_ (aJ4.tup (ajF.cons (aqq 19 TT) (ajF.cons (aqq 20 TT) ajF.nil)) (fun _=>rfl) (fun _=>rfl)) TT (fun _=>rfl)
   refine ajP (bjm X) TT ?_ (bjO X) TT
   refine ajw.cons (aj6 2 TT) ?_ TT
   refine ajw.cons (aj6 5 TT) ?_ TT
   refine ajw.cons (aj6 9 TT) ?_ TT
   refine ajw.cons (aj6 16 TT) ?_ TT
   exact l2_ TT (aj6 18 TT) (aj6 17 TT)
  refine aj1.cons ?_ ?_
  ·refine azY 21 TT ?_
   refine ajP (aXV X) TT ?_ (aVK X) TT
   refine ajw.cons (aj6 1 TT) ?_ TT
   refine ajw.cons (aj6 5 TT) ?_ TT
   refine ajw.cons (aj6 9 TT) ?_ TT
   refine ajw.cons (aj6 16 TT) ?_ TT
   exact l2_ TT (aj6 18 TT) (aj6 17 TT)
  refine aj1.cons ?_ ?_
  ·refine aj9.ife ?_ ?_ aj1.nil
   ·refine ajf.bop ?_
    refine aj8.or ?_ ?_
    ·exact ajf.cmp (aj6 21 TT) (aj6 19 TT) aj4.ne TB.truth (Eq.refl false)
    refine aj8.or ?_ aj8.orNil
    refine ajf.cmp ?_ ?_ aj4.ne TB.truth (Eq.refl false)
    ·refine az6 (axl X) TT ?_ aj2.isBool
     exact l2_ TT (aj6 21 TT) (bvZ (bzz X) TT)
    refine az6 (axl X) TT ?_ aj2.isBool
    exact l2_ TT (aj6 19 TT) (bvZ (bzz X) TT)
   refine aj1.last ?_
   exact aj9.ret1 aj5.cBool
  refine aj1.last ?_
  exact azY 2 TT (aj6 20 TT)
 refine aj1.cons ?_ ?_
 ·refine aj9.ife ?_ ?_ aj1.nil
  ·refine ajf.bop ?_
   refine aj8.or ?_ ?_
   ·refine ajf.cmp ?_ ?_ aj4.ne TB.truth (Eq.refl false)
    ·refine az6 (axt X) TT ?_ aj2.sorted
     refine l1_ TT ?_
     exact aqP X (avl X) TT (aj6 1 TT) ajw.nil (av1 X) TT
    refine az6 (axt X) TT ?_ aj2.sorted
    exact l1_ TT (aj6 2 TT)
   refine aj8.or ?_ ?_
   ·refine ajf.cmp ?_ ?_ aj4.ne TB.truth (Eq.refl false)
    ·refine az6 (axt X) TT ?_ aj2.sorted
     refine l1_ TT ?_
     exact aqP X (bzx X) TT (aj6 1 TT) ajw.nil (bvg X) TT
    refine az6 (axt X) TT ?_ aj2.sorted
    exact l1_ TT (aj6 2 TT)
   refine aj8.or ?_ aj8.orNil
   refine ajf.cmp ?_ ?_ aj4.dictNe TB.truth (Eq.refl false)
   ·exact aqP X (aKR X) TT (aj6 1 TT) ajw.nil (aVL X) TT
   refine ajP (aQ3 X) TT ?_ (aQy X) TT
   exact l2_ TT (aj6 2 TT) aj5.cBytes
  refine aj1.last ?_
  exact aj9.ret1 aj5.cBool
 refine aj1.cons ?_ ?_
 ·refine aj9.forL ?_ (aqq 22 TT) ?_ TT (fun _ _=>rfl)
  ·refine ak9.val ?_ aqn.all
   refine aqY (by kernel_rfl) ?_
   exact l2_ TT aj5.cBytes aj5.cBytes
  refine aj1.last ?_
  refine aj9.ife ?_ ?_ aj1.nil
  ·refine ajf.bop ?_
   refine aj8.or ?_ ?_
   ·refine ajf.cmp ?_ ?_ aj4.ne TB.truth (Eq.refl false)
    ·refine az6 (axt X) TT ?_ aj2.sorted
     refine l1_ TT ?_
     refine aqP X (bzx X) TT (aj6 1 TT) ?_ (bxm X) TT
     exact l1_ TT (aj6 22 TT)
    refine az6 (axt X) TT ?_ aj2.sorted
    refine l1_ TT ?_
    refine ajP (aKT X) TT ?_ (aX3 X) TT
    refine l2_ TT (aj6 2 TT) ?_
    exact aj5.bin (aj6 22 TT) aj5.cBytes aj4.add
   refine aj8.or ?_ aj8.orNil
   refine ajf.cmp ?_ ?_ aj4.dictNe TB.truth (Eq.refl false)
   ·refine aqP X (aKR X) TT (aj6 1 TT) ?_ (bjQ X) TT
    exact l1_ TT (aj6 22 TT)
   refine ajP (aQ3 X) TT ?_ (aQy X) TT
   refine l2_ TT (aj6 2 TT) ?_
   exact aj5.bin (aj6 22 TT) aj5.cBytes aj4.add
  refine aj1.last ?_
  exact aj9.ret1 aj5.cBool
 refine aj1.cons ?_ ?_
 ·exact azY 23 TT aj5.dictNew
 refine aj1.cons ?_ ?_
 ·refine aj9.forL ?_ (aqq 9 TT) ?_ TT (fun _ _=>rfl)
  ·exact ak9.val (aj6 2 TT) aqn.all
  refine aj1.last ?_
  refine aj9.ife ?_ ?_ aj1.nil
  ·refine ajf.cmp ?_ aj5.cBytes aj4.eq TB.truth (Eq.refl false)
   refine aj5.slice ?_ aqB.none ?_
   ·exact akq TT (aj6 2 TT) (aj6 9 TT)
   exact aqB.some aj5.cInt
  refine aj1.last ?_
  refine aj9.setItem ?_ (aj6 23 TT) (aj6 9 TT) azb.dictSet TT
  refine aj5.slice ?_ ?_ aqB.none
  ·exact akq TT (aj6 2 TT) (aj6 9 TT)
  exact aqB.some aj5.cInt
 refine aj1.last ?_
 refine aj9.ret1 ?_
 refine aj5.cmp ?_ (aj6 23 TT) aj4.dictEq (Eq.refl false)
 exact aqP X (aZQ X) TT (aj6 1 TT) ajw.nil (aZ8 X) TT
end Mine
end
section
namespace Mine
open PySem PySem.W PyProof.Rows PySem.Calls
noncomputable abbrev bZX:List Str:=["script","refs","held","number","rest","kind","pick","what","spot","name","turn","part","right","text","plain","read","value","other","old","due","kept","told","base","links"]
noncomputable abbrev bQP:FuncData:={ name:=bkQ (atS top 33),qualname:="law",params:=bkR (atS top 33),body:=.stmts (aja (atS top 33)),scope:=ajd (atS top 33),globals:=3,closure:=[],defaults:=.none,kwdefaults:=.none,pyModule:=.str "law_ji0035_01" 549,code:=.ref 371 }
theorem aVk {P:Params}{C:Addr}{W:Wd}:∀ {vs:List Value}{ns:List Int},IntsAre vs ns→VRs P C W (ns.map MV.int) vs
 | _,_,.nil=>rfl
 | _,_,.cons n t h=>by rw [List.map_cons];exact ⟨_,_,rfl,aZY,aVk h⟩
theorem axn {h:Heap}{P b:Addr}{o:Obj} (e:(hideAll h [P]).get? b=some o):b≠P∧h.get? b=some o:=by
 refine ⟨fun z=>?_,of_hideAll [P] e⟩
 rw [hideAll_none [P] (z ▸ List.mem_singleton.mpr rfl)] at e
 cases e
theorem bjt {S:ajA} (X:PF S) {s:Shared}{f:Addr}{fd:FuncData}{osl:Array (Option Value)}{od:Option Addr}{oc:Value}{body:List Stmt}{x:Str}{nm:List Str}{mb:M MF} (ho:(KK S.w.params).lookup f=some ⟨oc,od,.func fd,osl⟩) (hcd:codeIn (KK S.w.params) fd.code fd.qualname=true) (hbody:fd.body = .stmts body)
  (h1:fd.scope.kind = .function) (h2:fd.scope.isCoroutine=false) (h3:fd.scope.isGenerator=false) (h4:∀ y∈fd.scope.names,y.2≠.cell) (h5:(x::nm).Nodup) (h7:fd.scope.names.lookup x=some .local) (hgl:fd.globals=mainGlobals) (hbl:fd.builtins=builtinsNs)
  (hbd:∀ v,bindArgs fd ⟨[v],[]⟩=pure [(x,v)]) (hb:aj1 S ⟨fd.scope,x::nm,none⟩ 9 body mb) {P:Addr} (SO:aVy S (hideAll s.heap [P])) (hIC:s.heap.IsCode 107 P #[]) (hTA:s.heap.TableAt 107 P #[]) (hg:s.gens = #[]) {a:Addr}{vs:List Value}{ns:List Int} (hl:s.heap.IsList a vs.toArray)
  (hI:IntsAre vs ns) (haP:a≠P)
  (hm:mb ⟨.list (ns.map .int)::List.replicate nm.length .unb,[.tab]⟩ (fun f st'=>f = .ret (.bool true)∧st'.objs[0]? = some .tab) (fun _ _=>False))
  {Q:Value→Shared→Prop}{E:Value→Shared→Prop} (hQ:∀ s',OldK s.heap s'.heap→s'.os=s.os→AllBare s'.gens→Q (.bool true) s'):wpAny (model S.prog S.w) callerA (call (.ref f) [.ref a]) Q E s:=by
 have kinB:S.K.In (hideAll s.heap [P]):=SO.kin
 have kin:(KK S.w.params).In s.heap:=fun b o e=>(axn (kinB b o (by rw [X.k];exact e))).2
 have hlim:s.heap.NoLimit:=SO.nolimit.keeps fun b o e=>(axn e).2
 refine wpAny_call (codeAny_call_def (fd:=fd) (body:=body) (binds:=[(x,.ref a)]) (by decide) (kin _ _ ho) rfl hlim (codeRec_of kin hcd) hbody (BindsTo.of_eq (hbd _)) h4 (fun y hy=>?_) (fun h₀ hns hk₀=>?_) h2 h3 h1)
 ·rw [List.mem_singleton.mp hy]
  exact h7
 have hnew:s.heap.get? s.heap.objs.size=none:=Heap.get?_none_of_le (Nat.le_refl _)
 have ltL:∀ {b o},s.heap.get? b=some o→b≠s.heap.objs.size:=fun e=>Nat.ne_of_lt (Heap.lt_size e)
 have hPL:P≠s.heap.objs.size:=ltL hTA.2
 have hcL:(107:Addr)≠s.heap.objs.size:=by obtain ⟨⟨o,_,e,_⟩,_⟩:=hTA;exact ltL e
 have hcP:(107:Addr)≠P:=by revert hIC;refine az3 fun _ _ _ _ _ r8_=>?_;revert r8_;refine az3 fun _ _ _ _ _ r8_=>?_;revert r8_;refine akT fun _ _ _ _ _ r8_=>?_;revert r8_;refine akT fun _ _ _ _ _ z=>?_;exact z
 have haL:a≠s.heap.objs.size:=by revert hl;refine azC fun o e _=>?_;exact ltL e
 have R:Rel S ⟨callEnv fd s.heap.objs.size f,x::nm,[],[callEnv fd s.heap.objs.size f],hideAll s.heap [P],s.os,[]⟩
   ⟨{ s with heap:=h₀,toks:=s.toks + ([(x,Value.ref a)]:List (Str×Value)).length },[P],fun b=>b=P∨b=s.heap.objs.size⟩
   ⟨.list (ns.map .int)::List.replicate nm.length .unb,[.tab]⟩:=by
  refine { stat:=SO,envok:=⟨h1,hgl,hbl⟩,stays:=fun b o e=>hk₀ b o (axn e).2,fresh:=fun b o e q=>q.elim (axn e).1 (ltL (axn e).2),dlt:=?_,cur:=?_,outs:=fun r hr=>(nomatch hr),apart:=fun r hr=>(nomatch hr),nmnd:=h5,len:=rfl,rin:=?_,live:=?_,inj:=?_,stk:=?_,stkD:=?_,top:=⟨_,_,s.heap.objs.size,rfl,rfl,rfl⟩,topOK:=fun e0 r e=>(by cases e;exact ⟨h3,h2,hbl,hgl⟩),gens:=?_,os:=rfl,pins:=fun p hp=>(nomatch hp) }
  ·intro b hb
   rcases hb with rfl | rfl
   ·exact ⟨_,hk₀ _ _ hTA.2⟩
   ·revert hns;refine aQA fun o _ _ e _=>?_;exact ⟨o,e⟩
  ·refine ⟨.inr rfl,_,hns,fun k mv hkk hu=>?_⟩
   cases k with
   | zero=>
    cases hkk
    refine ⟨x,.ref a,rfl,?_,.inl ⟨h7,by simp [List.lookup]⟩⟩
    revert hl;refine azC fun o e r=>?_
    exact aZX ⟨a,vs,fun z=>z.elim haP haL,⟨o,hk₀ _ _ e,r⟩,aVk hI⟩
   | succ k=>
    rw [List.getElem?_cons_succ,List.getElem?_replicate] at hkk
    split at hkk
    ·cases hkk;exact absurd rfl hu
    ·cases hkk
  ·intro b hb
   rw [List.mem_singleton.mp hb]
   exact ⟨_,hk₀ _ _ hTA.2⟩
  ·intro i mo e1 e2
   cases i with
   | zero=>
    cases e1
    refine ⟨P,rfl,.inl rfl,⟨fun z=>?_,#[],?_,?_⟩,hPL,fun r hr=>(nomatch hr),fun z=>hPL (List.mem_singleton.mp z)⟩
    ·rw [X.t] at z;exact z.elim hcP hcL
    ·rw [X.t];exact hIC.keeps hk₀
    ·rw [X.t];exact hTA.keeps hk₀
   | succ i=>cases e1
  ·intro i j b mo mo' e1 e2 e3 e4 e5 e6
   cases i with
   | succ i=>cases e1
   | zero=>cases j with
    | succ j=>cases e3
    | zero=>rfl
  ·refine ⟨fun z=>(by rw [show (callEnv fd s.heap.objs.size f).scope=fd.scope from rfl,h1] at z;cases z),?_,trivial⟩
   revert hns;refine akS fun o es ep e1 e2 _=>?_
   refine ⟨_,o,rfl,?_,e1,fun vs q=>by rw [e2] at q;cases q⟩
   cases q:(hideAll s.heap [P]).get? s.heap.objs.size with
   | none=>rfl
   | some o=>rw [(axn q).2] at hnew;cases hnew
  ·intro L' hL'
   exact .inr (List.mem_singleton.mp hL')
  ·show AllBare s.gens
   rw [hg]
   exact AllBare.of_eq rfl
 have hA:AOK ⟨callEnv fd s.heap.objs.size f,x::nm,[],[callEnv fd s.heap.objs.size f],hideAll s.heap [P],s.os,[]⟩ 9 (callerA.deeper (callEnv fd s.heap.objs.size f)):=⟨rfl,by show callerA.depth + 1 + 4 * 9 + 110 < recursionLimit;decide,by show callerA.units + 3 + 16 * 9 + 16 < cLine;decide,rfl⟩
 refine hb.run _ (callerA.deeper (callEnv fd s.heap.objs.size f)) _ _ _ _ _ _ ⟨rfl,rfl,fun c e=>nomatch e⟩ hA R hm (fun W' st' f f' l R' hf hq=>?_) fun W' st' e c s'' l R' F hq=>hq.elim
 obtain ⟨rfl,h0⟩:=hq
 revert hf;refine azC fun u e0_ hu=>?_;subst e0_
 rw [bjX hu]
 refine hQ _ ⟨fun b o e=>?_,fun b o e=>?_⟩ R'.os R'.gens
 all_goals
  by_cases hbP:b=P
  ·subst hbP
   obtain ⟨x,q1,q2,⟨_,ps,q3,q4⟩,_⟩:=R'.live 0 .tab h0 (by intro z;cases z)
   have q5:x=b:=by
    have:=l.idx (i:=0) (a:=b) rfl
    rw [q1] at this;exact Option.some.inj this
   subst q5
   first
   | (refine .inr (.inl ⟨hTA.isCodeTable,?_⟩);rw [hTA.2] at e;cases e;exact ⟨rfl,#[],ps,rfl,by rw [q4.2];simp⟩)
   | exact ⟨_,q4.2⟩
  ·have:=R'.stays b o (hideAll_get [P] e (fun z=>hbP (List.mem_singleton.mp z)))
   first
   | exact .inl this
   | exact ⟨o,this⟩
theorem bqA {S:ajA} (X:PF S) {s:Shared}{P:Addr} (SO:aVy S (hideAll s.heap [P])) (hIC:s.heap.IsCode 107 P #[]) (hTA:s.heap.TableAt 107 P #[]) (hg:s.gens = #[]) {a:Addr}{vs:List Value}{ns:List Int} (hl:s.heap.IsList a vs.toArray)
  (hI:IntsAre vs ns) (haP:a≠P)
  (hm:aQI ⟨.list (ns.map .int)::List.replicate 23 .unb,[.tab]⟩ (fun f st'=>f = .ret (.bool true)∧st'.objs[0]? = some .tab) (fun _ _=>False))
  {Q:Value→Shared→Prop}{E:Value→Shared→Prop} (hQ:∀ s',OldK s.heap s'.heap→s'.os=s.os→AllBare s'.gens→Q (.bool true) s'):wpAny (model S.prog S.w) callerA (call (.ref 372) [.ref a]) Q E s:=by
 have hB:fnB (atS top 33) bZX 1=true:=by kernel_rfl
 unfold fnB at hB
 simp only [Bool.and_eq_true,decide_eq_true_eq,Bool.not_eq_true',List.all_eq_true] at hB
 obtain ⟨⟨⟨⟨⟨⟨h1,h2⟩,h3⟩,h4⟩,h5⟩,h6⟩,h7⟩:=hB
 have ho:(KK S.w.params).lookup 372=some (fnO (atS top 33) "law" .none "law_ji0035_01" 549 371):=by kernel_rfl
 have hcd:codeIn (KK S.w.params) (.ref 371) "law" = true:=by kernel_rfl
 have hbd:∀ v,bindArgs bQP ⟨[v],[]⟩=pure [(Str.ofString "script",v)]:=fun v=>by kernel_rfl
 have hb:=bZ9 X
 have h7':=h7 "script" (.head _)
 exact bjt X (fd:=bQP) ho hcd rfl h1 h2 h3 h4 h5 h7' rfl rfl hbd hb SO hIC hTA hg hl hI haP hm hQ
end Mine
end
section
namespace Mine
open PySem PySem.W PyProof.Rows PySem.Calls
theorem bJW:∃ d∈recsOf aZW,d.name = "_collapse_slashes":=by
 have h:(recsOf aZW).any (fun d=>decide (d.name = "_collapse_slashes"))=true:=by kernel_rfl
 refine ajl (List.any_eq_true.mp h) fun d h1 h2=>?_
 exact ⟨d,h1,of_decide_eq_true h2⟩
theorem bvu {h:Heap}{P a:Addr}{m:Str→Option Value}{ps:Array Value} (x:h.Ns a m) (hP:h.get? P=some { cls:=.none,data:=.fields ps }):(hideAll h [P]).Ns a m:=by
 revert x;refine aQA fun o es ep e r=>?_
 refine ⟨o,es,ep,hideAll_get [P] e fun z=>?_,r⟩
 rw [List.mem_singleton.mp z] at e
 rw [hP] at e
 cases e
 cases r.1
theorem bvM (hlaw:∀ ns:List Int,ns.length≤63→aQI ⟨.list (ns.map .int)::List.replicate 23 .unb,[.tab]⟩ (fun f st'=>f = .ret (.bool true)∧st'.objs[0]? = some .tab) (fun _ _=>False))
  {w:World}{s₁:Shared}{mg mb:Str→Option Value}{loose:List Str}{mean:ExcName→Option Value} (KX:(KK w.params).In s₁.heap) (T:Top aZW loose mean mg mb s₁.heap) (hg:s₁.gens = #[]) {a:Addr}{vs:List Value}{ns:List Int} (hL:s₁.heap.IsList a vs.toArray) (hI:IntsAre vs ns)
  (hlen:ns.length≤63) {Q:Value→Shared→Prop}{E:Value→Shared→Prop} (hQ:∀ s',OldK s₁.heap s'.heap→s'.os=s₁.os→AllBare s'.gens→Q (.bool true) s') :
  wpAny (model PySem.Challenge.pw_ji0035_01 w) callerA (call (.ref 372) [.ref a]) Q E s₁:=by
 refine ajl bJW fun d hd hn=>?_
 refine akZ (T.tab d hd) fun x o fd c P r8_=>?_;revert r8_;refine akT fun e1 e2 e3 e4 hIC hTA=>?_
 rw [hn] at e1
 have z1:=mg_of KX T.g (n:="_collapse_slashes") (v:=.ref 108) (by kernel_rfl)
 have z2:x=108:=by rw [z1] at e1;cases e1;rfl
 subst z2
 have z3:=KX 108 (fnO (atS top 17) "_collapse_slashes" .none "dulwich.refs" 247 107) (by kernel_rfl)
 rw [z3] at e2
 cases e2
 cases e3
 have z4:c=107:=by cases e4;rfl
 subst z4
 have hcode:∃ vs',(KK w.params).lookup 107=some (cdO vs')∧vs'[11]? = some (.ref 103):=⟨#[Mine.vs "_collapse_slashes" 310,Mine.vs "_collapse_slashes" 311,Mine.vs "/claim/cut.py" 312,vi 71,vi 1,vi 0,vi 0,vi 3,vr 102,.bool true,vi 181,vr 103,.none,vr 104,vr 105,vr 106,vi 314,vi 71,Mine.vs "/claim/cut.py" 315],by kernel_rfl,by kernel_rfl⟩
 revert hcode;refine azC fun vs' q1 q2=>?_
 have hP:P=103:=by
  obtain ⟨⟨o',v',r1,_,r2,r3⟩,_⟩:=hTA
  rw [KX 107 _ q1] at r1
  cases r1
  cases r2
  rw [q2] at r3
  cases r3;rfl
 subst hP
 have kinB:(KK w.params).In (hideAll s₁.heap [103]):=fun b o e=>by
  refine hideAll_get [103] (KX b o e) fun z=>?_
  rw [List.mem_singleton.mp z] at e
  have:(KK w.params).lookup 103=none:=by kernel_rfl
  rw [this] at e;cases e
 have hNP:∀ {b:Addr}{ob:Obj},s₁.heap.get? b=some ob→ob.data = .plain→(hideAll s₁.heap [103]).get? b=some ob:=fun {b ob} e hp=>hideAll_get [103] e fun z=>by
  rw [List.mem_singleton.mp z,hTA.2] at e;cases e;cases hp
 have hseer:s₁.heap.NoSeer:=T.seer (by kernel_rfl)
 refine aZo T.bmain fun bm ob b1 b2 b3 r8_=>?_;revert r8_;refine bzF fun b4 b5 b6=>?_
 have hns:∀ {b:Addr}{m:Str→Option Value},s₁.heap.Ns b m→(hideAll s₁.heap [103]).Ns b m:=fun h=>bvu h hTA.2
 have SO:aVy ⟨PySem.Challenge.pw_ji0035_01,w,281,KK w.params,mg,mb,107⟩ (hideAll s₁.heap [103]):={
  kin:=kinB,g:=hns T.g,b:=hns T.b,blt:=T.builtins
  nolimit:=let ⟨mc,h1,h2⟩:=T.nolimit;⟨mc,hns h1,h2⟩
  sys:=by
   refine ajl hseer.mods fun mm h1 _=>?_
   refine av2 (hns h1) fun o' _ _ e _=>?_
   rw [e];rfl
  seer:={
   statics:=let ⟨mc,h1,h2⟩:=hseer.statics;⟨mc,hns h1,h2⟩
   mods:=let ⟨mc,h1,h2⟩:=hseer.mods;⟨mc,hns h1,h2⟩
   imp:=let ⟨mc,h1,h2⟩:=hseer.imp;⟨mc,hns h1,h2⟩
   main:=⟨mg,bm,ob,hns T.g,b1,hNP b3 b6,b4,b5⟩ }
  tree:=by kernel_rfl
  bmain:=⟨bm,ob,b1,b2,hNP b3 b6,b4,b5,b6⟩ }
 have X:PF ⟨PySem.Challenge.pw_ji0035_01,w,281,KK w.params,mg,mb,107⟩:=⟨rfl,rfl,rfl,fun x v h=>by
  cases v with
  | none=>exact ns_none_of KX T.g h
  | some v=>exact mg_of KX T.g h⟩
 have haP:a≠103:=fun z=>by
  revert hL;refine aZb fun o' e h1 h2=>?_
  rw [z,hTA.2] at e
  cases e
  cases h1
 exact bqA X (s:=s₁) SO hIC hTA hg hL hI haP (hlaw ns hlen) hQ
end Mine
end
section
namespace Mine
open PySem PySem.W PyProof.Rows PySem.Calls
theorem bvL:PySem.Challenge.rw_ji0035_01.wellSaid=true:=by
 unfold OpenLaw.wellSaid
 repeat' with_reducible refine look_both ?_ ?_
 all_goals (try unfold OpenRow.wellSaid OpenRow.partSaid looksOpen)
 all_goals (repeat' with_reducible refine look_both ?_ ?_)
 all_goals decide +kernel
set_option maxHeartbeats 8000000 in
theorem holdsIf (hlaw:∀ ns:List Int,ns.length≤63→aQI ⟨.list (ns.map .int)::List.replicate 23 .unb,[.tab]⟩ (fun f st'=>f = .ret (.bool true)∧st'.objs[0]? = some .tab) (fun _ _=>False)):PySem.Challenge.rw_ji0035_01.Holds:=by
 w_on
 refine holds_law bvL fun said=>?_
 refine holds_open (q:=aZW) (loose:=[]) (Xt:=fun s=>xlAt aZW [] s && recOk (RowW.records PySem.Challenge.rw_ji0035_01.row.toRowW) s) (XP:=XL aZW []) (Yf:=Hook.obs aXw) (Ya:=Hook.val aXw) (YP:=Hook.says aXw) (N:=4694) ?hl (Hook.of aXw) (Hook.keeps aXw) (fun s e=>xl_of s (Bool.and_eq_true_iff.mp e).1) XL.keeps (by rfl) (by rfl) (by rfl) (fun s e=>recFacts_of (Bool.and_eq_true_iff.mp e).2) (by rfl) (by first | assumption | decide +kernel) (by decide +kernel) ⟨rfl,rfl,rfl,rfl,rfl,by decide +kernel⟩ ?hw ?hc
 case hl=>exact bKc
 case hw=>w_witness2
 case hc=>
  intro w s₀ s₁ mg mb G Y fa o pm cd doc dV kV ho hd hcd hD hmg hg args vals as hpre hlay hrd hwl hlo
  have KX:=kIn_of Y
  have T:=Ground.T G
  clear hd hcd hD G Y
  wrow_args hpre hlay hrd hwl hlo
  rename_i ns _ _ _ _ _ _ _ a vs _ hL _ _ _ hI _ hlen _
  have hfa:fa=372:=by
   have h1:=mg_of KX T.g (n:="law") (v:=.ref 372) (by kernel_rfl)
   have h2:=hmg.symm.trans h1
   cases h2;rfl
  subst hfa
  clear ho hmg
  refine bvM hlaw KX T hg hL hI (by walk_at "O") fun s' h1 h2 h3=>?_
  refine ⟨.inl ⟨_,.bool true,[],rfl,?_,?_,?_,?_⟩,h1,h2,h3⟩
  ·intro cls;rfl
  ·exact ReadsW.bool true
  ·kernel_rfl
  ·exact fun _=>⟨List.nodup_nil,fun _ h=>nomatch h⟩
end Mine
end
section
namespace Mine
noncomputable abbrev Bs:=List UInt8
noncomputable def adj (x y:UInt8):Bs→Bool
 | []=>false
 | a::r=>(decide (a=x) && decide (r.head? = some y)) || adj x y r
theorem azg (x y a:UInt8) (r:Bs):adj x y (a::r)=((decide (a=x) && decide (r.head? = some y)) || adj x y r):=rfl
theorem azN {α : Type} [BEq α] [LawfulBEq α] [DecidableEq α] (a b:List α):(a == b)=decide (a=b):=by
 by_cases h:a=b
 ·rw [decide_eq_true h,beq_iff_eq];exact h
 ·rw [decide_eq_false h,beq_eq_false_iff_ne];exact h
theorem aXP (x:UInt8):∀ b:Bs,bIn [x] b=b.contains x
 | []=>rfl
 | a::r=>by
  have ih:=aXP x r
  unfold bIn at ih ⊢
  rw [show (a::r).length + 1 - [x].length=r.length + 1 from rfl,List.range_succ_eq_map,List.any_cons,List.any_map,List.contains_cons,← ih]
  have e1:((List.drop 0 (a::r)).take [x].length == [x])=(x == a):=by
   show ([a] == [x])=(x == a)
   rw [azN]
   by_cases h:x=a
   ·subst h;rw [beq_self_eq_true,decide_eq_true rfl]
   ·rw [decide_eq_false (fun z=>h (List.cons.inj z).1.symm),beq_eq_false_iff_ne.mpr h]
  rw [e1]
  rfl
theorem aZL (x y:UInt8):∀ b:Bs,bIn [x,y] b=adj x y b
 | []=>rfl
 | [a]=>by rw [azg];show false=(decide (a=x) && decide ((none:Option UInt8)=some y) || false);rw [decide_eq_false (by simp:¬ (none:Option UInt8)=some y),Bool.and_false];rfl
 | a::c::r=>by
  have ih:=aZL x y (c::r)
  rw [azg,← ih]
  unfold bIn
  rw [show (a::c::r).length + 1 - [x,y].length=r.length + 1 from rfl,show (c::r).length + 1 - [x,y].length=r.length from rfl,List.range_succ_eq_map,List.any_cons,List.any_map]
  have e1:((List.drop 0 (a::c::r)).take [x,y].length == [x,y])=(decide (a=x) && decide ((c::r).head? = some y)):=by
   show ([a,c] == [x,y])=(decide (a=x) && decide (some c=some y))
   rw [azN]
   by_cases h:a=x
   ·subst h
    rw [decide_eq_true rfl,Bool.true_and]
    by_cases h2:c=y
    ·subst h2;rw [decide_eq_true rfl,decide_eq_true rfl]
    ·rw [decide_eq_false (fun z=>h2 (List.cons.inj (List.cons.inj z).2).1),decide_eq_false (fun z=>h2 (Option.some.inj z))]
   ·rw [decide_eq_false h,decide_eq_false (fun z=>h (List.cons.inj z).1),Bool.false_and]
  rw [e1]
  rfl
noncomputable def aqZ (c:UInt8):Bool:=!decide (c.toNat < 32) && !([32,42,58,63,91,92,94,126,127]:Bs).contains c
noncomputable def azv:Bs:=[46,108,111,99,107]
noncomputable def akH (p:Bs):Bs:=p.drop (p.length - 5)
noncomputable def aQU (p:Bs):Bool:=!decide (p.head? = some 46) && !adj 46 46 p && !adj 64 123 p
noncomputable def akf (p:Bs):Bool:=p.all aqZ && aQU p && !decide (akH p=azv)
noncomputable def CC (L:List Bs):Bool:=L.all (fun p=>!p.isEmpty && akf p) && decide (2≤L.length) && !decide ((L.getLastD []).getLast? = some 46)
noncomputable def run (loose:Bool):Bs→UInt8→Bool→Bs→Bool
 | part,last,slash,[]=>slash && !part.isEmpty && !decide (last=46) && !decide (akH part=azv)
 | part,last,slash,c::r=>
  if !aqZ c then false
  else if c=47 then (if decide (akH part=azv) || (part.isEmpty && !loose) then false else run loose [] 47 (slash || !part.isEmpty) r)
  else if c=46 && (part.isEmpty || decide (last=46)) then false
  else if c=123 && decide (last=64) then false
  else run loose (part++[c]) c slash r
theorem azj (x y:UInt8):∀ (p q:Bs),adj x y (p++q)=(adj x y p || (decide (p.getLast? = some x) && decide (q.head? = some y)) || adj x y q)
 | [],q=>by simp [adj]
 | [a],q=>by
  dsimp only [adj,List.cons_append,List.nil_append,List.head?_nil,List.getLast?_singleton]
  rw [Bool.eq_iff_iff];simp
 | a::b::r,q=>by
  have ih:=azj x y (b::r) q
  rw [List.cons_append]
  rw [azg,azg,ih]
  have:((b::r)++q).head? = (b::r).head?:=rfl
  rw [this,List.getLast?_cons_cons,Bool.or_assoc,Bool.or_assoc,Bool.or_assoc]
theorem aXz (p q:Bs) (h:p≠[]):(p++q).head? = p.head?:=by
 cases p with
 | nil=>exact absurd rfl h
 | cons a r=>rfl
theorem aXC {p q:Bs} (h:aQU (p++q)=true):aQU p=true:=by
 unfold aQU at h ⊢
 rw [azj,azj] at h
 simp only [Bool.and_eq_true,Bool.not_eq_true',decide_eq_false_iff_not,Bool.or_eq_false_iff] at h ⊢
 obtain ⟨⟨h1,h2⟩,h3⟩:=h
 refine ⟨⟨?_,h2.1.1⟩,h3.1.1⟩
 cases p with
 | nil=>simp
 | cons a r=>exact h1
theorem bqX (p:Bs) (c:UInt8):aQU (p++[c])=(aQU p && !(decide (c=46) && (p.isEmpty || decide (p.getLast? = some 46))) && !(decide (c=123) && decide (p.getLast? = some 64))):=by
 unfold aQU
 rw [azj,azj]
 cases p with
 | nil=>
  dsimp only [List.nil_append,List.head?_cons,List.head?_nil,adj,List.getLast?_nil,List.isEmpty_nil]
  rw [Bool.eq_iff_iff];simp
 | cons a r=>
  rw [aXz _ _ (by simp)]
  dsimp only [adj,List.head?_cons,List.head?_nil,List.isEmpty_cons,List.cons_ne_nil]
  rw [Bool.eq_iff_iff]
  simp only [Bool.and_eq_true,Bool.not_eq_true',Bool.or_eq_false_iff,Bool.and_eq_false_iff,decide_eq_false_iff_not,Bool.false_or,Option.some.injEq,Bool.or_false,reduceCtorEq,not_false_eq_true,or_true,and_true]
  constructor
  ·rintro ⟨⟨h1,h2,h3⟩,h4,h5⟩
   exact ⟨⟨⟨⟨h1,h2⟩,h4⟩,h3.symm⟩,h5.symm⟩
  ·rintro ⟨⟨⟨⟨h1,h2⟩,h4⟩,h3⟩,h5⟩
   exact ⟨⟨h1,h2,h3.symm⟩,h4,h5.symm⟩
end Mine
end
namespace Mine
open PySem PySem.W
section
variable {α β : Type}{st:MSt}{E:Value→MSt→Prop}
theorem aK4 {a : α}{Q : α→MSt→Prop}:ret a st Q E=Q a st:=rfl
theorem aQl {m:M α}{f : α→M β}{Q : β→MSt→Prop}:bnd m f st Q E=m st (fun a st'=>f a st' Q E) E:=rfl
theorem bv8 {Q : α→MSt→Prop}:(azk:M α) st Q E=False:=rfl
theorem bk4 {c:Value}{Q : α→MSt→Prop}:(axC c:M α) st Q E=E c st:=rfl
theorem bkJ {p:Prop}{m:M α}{Q : α→MSt→Prop}:aqg p m st Q E=(p∧m st Q E):=rfl
theorem bxK {k:Nat}{l:List MV}{o:List MO}{Q:MV→MSt→Prop}:getL k ⟨l,o⟩ Q E=bV (l.getD k .unb) (Q (l.getD k .unb) ⟨l,o⟩):=rfl
theorem bxl {k:Nat}{v:MV}{l:List MV}{o:List MO}{Q:Unit→MSt→Prop}:ajD k v ⟨l,o⟩ Q E=bL k l (bV v (Q () ⟨l.set k v,o⟩)):=rfl
theorem bqP {c:M Bool}{a b:M α}{Q : α→MSt→Prop}:ifM c a b st Q E=c st (fun t st'=>cond t (a st' Q E) (b st' Q E)) E:=rfl
theorem bxP {t:Bool}{a b:M α}{Q : α→MSt→Prop}:(cond t a b) st Q E=cond t (a st Q E) (b st Q E):=by cases t<;>rfl
theorem akN {m r:M MF}{Q:MF→MSt→Prop}:ajc m r st Q E=m st (fun f st'=>match f with | .next=>r st' Q E | f=>Q f st') E:=rfl
theorem aji {ms mr:M MF}{Q:MF→MSt→Prop} (h:∀ K:MF→MSt→Prop,(∀ st',mr st' Q E→K .next st')→(∀ v st',Q (.ret v) st'→K (.ret v) st')→(∀ st',Q .brk st'→K .brk st')→(∀ st',Q .cont st'→K .cont st')→ms st K E):ajc ms mr st Q E:=by
 rw [akN]
 exact h _ (fun _ z=>z) (fun _ _ z=>z) (fun _ z=>z) (fun _ z=>z)
theorem aXB {xs:List MV}{n:Nat}{m:M α}{Q : α→MSt→Prop} (e:xs.length=n) (h:m st Q E):gE xs n m st Q E:=by subst e;unfold gE;rw [Nat.beq_refl];exact h
theorem gN_h {xs:List MV}{m:M α}{Q : α→MSt→Prop} (h:xs.length≤1000):gN xs m st Q E=m st Q E:=by unfold gN;rw [Nat.ble_eq_true_of_le h];rfl
theorem gN0 {m:M α}{Q : α→MSt→Prop}:gN [] m st Q E=m st Q E:=rfl
theorem gN1 {x0:MV}{m:M α}{Q : α→MSt→Prop}:gN [x0] m st Q E=m st Q E:=rfl
theorem gN2 {x0 x1:MV}{m:M α}{Q : α→MSt→Prop}:gN [x0,x1] m st Q E=m st Q E:=rfl
theorem gN3 {x0 x1 x2:MV}{m:M α}{Q : α→MSt→Prop}:gN [x0,x1,x2] m st Q E=m st Q E:=rfl
theorem gN4 {x0 x1 x2 x3:MV}{m:M α}{Q : α→MSt→Prop}:gN [x0,x1,x2,x3] m st Q E=m st Q E:=rfl
theorem gN5 {x0 x1 x2 x3 x4:MV}{m:M α}{Q : α→MSt→Prop}:gN [x0,x1,x2,x3,x4] m st Q E=m st Q E:=rfl
theorem gN6 {x0 x1 x2 x3 x4 x5:MV}{m:M α}{Q : α→MSt→Prop}:gN [x0,x1,x2,x3,x4,x5] m st Q E=m st Q E:=rfl
theorem gN7 {x0 x1 x2 x3 x4 x5 x6:MV}{m:M α}{Q : α→MSt→Prop}:gN [x0,x1,x2,x3,x4,x5,x6] m st Q E=m st Q E:=rfl
theorem gN8 {x0 x1 x2 x3 x4 x5 x6 x7:MV}{m:M α}{Q : α→MSt→Prop}:gN [x0,x1,x2,x3,x4,x5,x6,x7] m st Q E=m st Q E:=rfl
theorem gN9 {x0 x1 x2 x3 x4 x5 x6 x7 x8:MV}{m:M α}{Q : α→MSt→Prop}:gN [x0,x1,x2,x3,x4,x5,x6,x7,x8] m st Q E=m st Q E:=rfl
theorem gN10 {x0 x1 x2 x3 x4 x5 x6 x7 x8 x9:MV}{m:M α}{Q : α→MSt→Prop}:gN [x0,x1,x2,x3,x4,x5,x6,x7,x8,x9] m st Q E=m st Q E:=rfl
theorem bKZ {x0 x1 x2 x3 x4 x5 x6 x7 x8 x9 x10:MV}{m:M α}{Q : α→MSt→Prop}:gN [x0,x1,x2,x3,x4,x5,x6,x7,x8,x9,x10] m st Q E=m st Q E:=rfl
theorem gN12 {x0 x1 x2 x3 x4 x5 x6 x7 x8 x9 x10 x11:MV}{m:M α}{Q : α→MSt→Prop}:gN [x0,x1,x2,x3,x4,x5,x6,x7,x8,x9,x10,x11] m st Q E=m st Q E:=rfl
theorem gN13 {x0 x1 x2 x3 x4 x5 x6 x7 x8 x9 x10 x11 x12:MV}{m:M α}{Q : α→MSt→Prop}:gN [x0,x1,x2,x3,x4,x5,x6,x7,x8,x9,x10,x11,x12] m st Q E=m st Q E:=rfl
end
section
variable {p:Prop}
theorem bJq {a:MV} (h:a≠.unb):bV a p=p:=by cases a<;>first | rfl | exact absurd rfl h
theorem oP_s {α : Type}{a : α}{q : α→Prop}:aXd (some a) q=q a:=rfl
end
section
variable {α β : Type}{st:MSt}{E:Value→MSt→Prop}
theorem ajj {c:M Bool}{A R:M MF}{Q:MF→MSt→Prop} (h:∀ QB:Bool→MSt→Prop,c st QB E=QB false st) (k:R st Q E):ajc (ifM c A (ret .next)) R st Q E:=by
 rw [akN,bqP,h];exact k
theorem av7 {c:M Bool}{A R:M MF}{Q:MF→MSt→Prop} (h:∀ QB:Bool→MSt→Prop,c st QB E=QB true st) (k:∀ K:MF→MSt→Prop,(∀ st',R st' Q E→K .next st')→(∀ v st',Q (.ret v) st'→K (.ret v) st')→A st K E):ajc (ifM c A (ret .next)) R st Q E:=by
 rw [akN,bqP,h];exact k _ (fun _ z=>z) (fun _ _ z=>z)
theorem bZG {mb mo:M MF}{hs:Value→M MF}{Q:MF→MSt→Prop} (h:∀ (K:MF→MSt→Prop) (E':Value→MSt→Prop),(∀ st',mo st' Q E→K .next st')→(∀ v st',Q (.ret v) st'→K (.ret v) st')→(∀ c st',hs c st' Q E→E' c st')→mb st K E'):aVE mb hs mo st Q E:=
 h _ _ (fun _ z=>z) (fun _ _ z=>z) (fun _ _ z=>z)
theorem bvr {m:List MV→M α}{xs:List MV}{Q : α→MSt→Prop}:azm m (.tup xs) st Q E=m xs st Q E:=rfl
theorem bjJ {m:MV→M Unit}{r:List MV→M Unit}{x:MV}{xs:List MV}{Q:Unit→MSt→Prop}:ajg m r (x::xs) st Q E=m x st (fun _ st'=>r xs st' Q E) E:=rfl
theorem bzX {Q:Unit→MSt→Prop}:aqj [] st Q E=Q () st:=rfl
theorem aVo {t:MV→M Unit}{b:M MF}{Q:MF→MSt→Prop}:aqu [] t b st Q E=Q .next st:=rfl
theorem av9 {x:MV}{xs:List MV}{t:MV→M Unit}{b:M MF}{Q:MF→MSt→Prop}:aqu (x::xs) t b st Q E=t x st (fun _ st1=>b st1 (fun f st2=>match f with | .next=>aqu xs t b st2 Q E | .cont=>aqu xs t b st2 Q E | .brk=>Q .next st2 | .ret v=>Q (.ret v) st2) E) E:=by
 show bnd (t x) _ st Q E=_
 rw [aQl]
 congr 1
 funext _ st1
 rw [aQl]
 congr 1
 funext f st2
 cases f<;>rfl
theorem aJg {x:MV}{xs:List MV}{t:MV→M Unit}{b:M MF}{Q:MF→MSt→Prop} (h:∀ K:MF→MSt→Prop,(∀ st',aqu xs t b st' Q E→K .next st')→(∀ st',aqu xs t b st' Q E→K .cont st')→(∀ st',Q .next st'→K .brk st')→(∀ v st',Q (.ret v) st'→K (.ret v) st')→t x st (fun _ st1=>b st1 K E) E) :
  aqu (x::xs) t b st Q E:=by
 rw [av9]
 exact h _ (fun _ z=>z) (fun _ z=>z) (fun _ z=>z) (fun _ _ z=>z)
theorem aQt {mb mo:M MF}{hs:Value→M MF}{Q:MF→MSt→Prop}:aVE mb hs mo st Q E=mb st (fun f st'=>match f with | .next=>mo st' Q E | f=>Q f st') (fun c st'=>hs c st' Q E):=rfl
theorem akd.app (o t:List MO):akd o (o++t):=fun i mo hi h=>.inl (by rwa [List.getElem?_append_left hi] at h)
theorem akd.same (o:List MO):akd o o:=fun i mo hi h=>.inl h
theorem aqo (o t:List MO):(o++t).take o.length=o:=List.take_left' rfl
theorem aqb {n:Nat}{b:M MF}{as:List MV}{Q:MV→MSt→Prop}:aQj n b as st Q E=b ⟨as++List.replicate (n - as.length) .unb,st.objs⟩
  (fun f st'=>f.val.cl st.objs.length∧akd st.objs st'.objs∧Q f.val ⟨st.loc,st'.objs.take st.objs.length⟩) (fun c st'=>akd st.objs st'.objs∧E c ⟨st.loc,st'.objs.take st.objs.length⟩):=rfl
theorem ake (o:List MO):o.take o.length=o:=List.take_length
end
section
variable {st:MSt}{E:Value→MSt→Prop}{Q:MV→MSt→Prop}{QB:Bool→MSt→Prop}
theorem bQR {a b:Bs}:mEq (.bytes a) (.bytes b) st Q E=Q (.bool (decide (a=b))) st:=rfl
theorem bQm {a b:Bs}:mNe (.bytes a) (.bytes b) st Q E=Q (.bool (!decide (a=b))) st:=rfl
theorem bKw {a b:Int}:mEq (.int a) (.int b) st Q E=Q (.bool (decide (a=b))) st:=rfl
theorem bQk {a b:Int}:mNe (.int a) (.int b) st Q E=Q (.bool (!decide (a=b))) st:=rfl
theorem bvA {a b:Bool}:mNe (.bool a) (.bool b) st Q E=Q (.bool (!(a == b))) st:=rfl
theorem bKp {a b:Bs}:mIn (.bytes a) (.bytes b) st Q E=Q (.bool (bIn a b)) st:=rfl
theorem bkf {a b:Bs}:ax6 (.bytes a) (.bytes b) st Q E=Q (.bool (!bIn a b)) st:=rfl
theorem bqJ {a b:MV}{r:Bool} (h:inV st a b=some r):mIn a b st Q E=Q (.bool r) st:=by unfold mIn;rw [h];rfl
theorem aV7 {a b:MV}{r:Bool} (h:inV st a b=some r):ax6 a b st Q E=Q (.bool (!r)) st:=by unfold ax6;rw [h];rfl
theorem bQj {a b:MV}{r:Bool} (h:aVb a b=some r) (h2:mvD a≤8):mNe a b st Q E=Q (.bool (!r)) st:=by unfold mNe;rw [h,Nat.ble_eq_true_of_le h2];rfl
theorem bKo {c:UInt8}{b:Bs}:mIn (.int (c.toNat:Int)) (.bytes b) st Q E=Q (.bool (b.contains c)) st:=by
 have h:(c.toNat:Int) < 256:=by have:=c.toNat_lt;walk_at "O"
 have e:inV st (.int (c.toNat:Int)) (.bytes b)=some (b.contains c):=(if_pos ⟨by walk_at "O",h⟩).trans (by simp)
 unfold mIn
 rw [e]
 rfl
theorem tr_b {b:Bs}:aj3 (.bytes b) st QB E=(b.length≤1099511627776∧QB (decide (b≠[])) st):=rfl
theorem tr_l {b:Bool}:aj3 (.bool b) st QB E=QB b st:=rfl
theorem tr_n:aj3 .none st QB E=QB false st:=rfl
theorem tr_i {i:Int}:aj3 (.int i) st QB E=QB (decide (i≠0)) st:=rfl
theorem isn {a:MV}:azu a .none st Q E=bV a (Q (.bool (isN a)) st):=rfl
theorem bKW {a:MV}:ajI a .none st Q E=bV a (Q (.bool (!isN a)) st):=rfl
theorem bQF {b:Bs}:aQL [.bytes b] st Q E=(b.length≤1099511627776∧Q (.int b.length) st):=rfl
theorem bzQ {a b:Bs}:azt [.bytes a,.bytes b] st Q E=Q (.bool (aqL a b)) st:=rfl
theorem bQS {a b:Bs}:bku [.bytes a,.bytes b] st Q E=Q (.bool (aZM a b)) st:=rfl
theorem bzZ {a b:Bs}:aZu [.bytes a,.bytes b] st Q E=(a.length≤16777216∧Q (.bytes (ajy false true b a)) st):=rfl
theorem bv9 {a b:Bs}:aVf [.bytes a,.bytes b] st Q E=(a.length≤16777216∧Q (.bytes (ajy true true b a)) st):=rfl
theorem bvc {a:Bs}{c:UInt8}:aKk [.bytes a,.bytes [c]] st Q E=(a.length≤10000∧Q (.list ((ajv c a).map MV.bytes)) st):=rfl
theorem bxY {a b:Bs}:akc (.bytes a) (.bytes b) st Q E=(a.length + b.length≤16777216∧Q (.bytes (a++b)) st):=rfl
theorem bZb {a b:Int}:akc (.int a) (.int b) st Q E=Q (.int (a + b)) st:=rfl
theorem bZa {a b:List MV}:akc (.list a) (.list b) st Q E=(a.length + b.length≤10000∧Q (.list (a++b)) st):=rfl
theorem bvX {a b:Int}:bkt (.int a) (.int b) st Q E=Q (.int (a + b)) st:=rfl
theorem bJX {a b:Int}:bvE (.int a) (.int b) st Q E=Q (.int (a - b)) st:=rfl
theorem bQt {a b:Int}:aJo (.int a) (.int b) st Q E=(Builtin.Int.intBits b≤64∧Q (.int (a * b)) st):=rfl
theorem bxz {a:Bs}{b:Int}:aJo (.bytes a) (.int b) st Q E=((a≠[]∧2≤b∧b≤1000∧a.length≤1000)∧Q (.bytes (List.replicate b.toNat a).flatten) st):=rfl
theorem bQu {a b:Int}:aXn (.int a) (.int b) st Q E=(b≠0∧Q (.int (a.fmod b)) st):=rfl
theorem bK9 {a b:Int}:mLt (.int a) (.int b) st Q E=Q (.bool (decide (a < b))) st:=rfl
theorem bKd {a b:Int}:mLe (.int a) (.int b) st Q E=Q (.bool (decide (a≤b))) st:=rfl
theorem bKt {a b:Int}:mGt (.int a) (.int b) st Q E=Q (.bool (decide (a > b))) st:=rfl
theorem bZY {a:Int}:aJd (.int a) st Q E=Q (.int (-a)) st:=rfl
theorem bzU {b:Bs}{n:Int}:av6 (.bytes b) (.int n) .none st Q E=(b.length≤16777216∧Q (.bytes (axx b (some n) none)) st):=rfl
theorem bzS {b:Bs}{n:Int}:av6 (.bytes b) .none (.int n) st Q E=(b.length≤16777216∧Q (.bytes (axx b none (some n))) st):=rfl
theorem bzT {b:Bs}{n m:Int}:av6 (.bytes b) (.int n) (.int m) st Q E=(b.length≤16777216∧Q (.bytes (axx b (some n) (some m))) st):=rfl
theorem bzR {b:List MV}{n:Int}:av6 (.list b) (.int n) .none st Q E=(b.length≤10000∧Q (.list (axx b (some n) none)) st):=rfl
theorem aV0 {b:List MV}{n:Int}:av6 (.list b) .none (.int n) st Q E=(b.length≤10000∧Q (.list (axx b none (some n))) st):=rfl
theorem bQK {b:Bs}{i:Int}:ajG (.bytes b) (.int i) st Q E = ∃ c,bAt b i=some c∧b.length≤1099511627776∧Q (.int (c.toNat:Int)) st:=rfl
theorem bQJ {b:List MV}{i:Int}:ajG (.list b) (.int i) st Q E = ∃ c,lAt b i=some c∧b.length≤10000∧Q c st:=rfl
theorem bQI {b:List MV}{i:Int}:ajG (.tup b) (.int i) st Q E = ∃ c,lAt b i=some c∧b.length≤10000∧Q c st:=rfl
theorem bKA {a b:Int}:akn [.int a,.int b] st Q E=(b≠0∧Q (.tup [.int (a.fdiv b),.int (a.fmod b)]) st):=rfl
theorem kB_a {b:Bs}{p:Prop}:aqz (.bytes b) st p=p:=rfl
theorem kR_a {i:Nat}{p:Prop}:ajK (.refs i) st p=p:=rfl
theorem kD_a {a:MV}{p:Prop}:ax9 a st p=(aVi a st∧p):=rfl
theorem kL_a {a:MV}{p:Prop}:aXv a st p=(aJQ a st∧p):=rfl
theorem kS_a {a:MV}{p:Prop}:bZo a st p=(aZC a st∧p):=rfl
theorem bKm {mc:List MV→M MV}{i:Nat}{b:MV}:aQM mc (.refs i) b st Q E=mc [.refs i,b] st Q E:=rfl
theorem bZH {mc:List MV→M MV}{i:Nat}{b c:MV}{QU:Unit→MSt→Prop}:bkq mc (.refs i) b c st QU E=mc [.refs i,b,c] st (fun _=>QU ()) E:=rfl
theorem bKr {mc:List MV→M MV}{mt:MV→M Bool}{i:Nat}{b:MV}:bZm mc mt b (.refs i) st Q E=mc [.refs i,b] st (fun r st'=>mt r st' (fun t=>Q (.bool t)) E) E:=rfl
theorem bk2 {i:Nat}:azB (.refs i) st Q E=Q (.obj i) st:=rfl
theorem bZQ {c:UInt8}:bQz [.bytes [c]] st Q E=Q (.int (c.toNat:Int)) st:=rfl
theorem bKj {xs:List MV}{QL:List MV→MSt→Prop}:aq7 (.list xs) st QL E=QL xs st:=rfl
theorem bKh {xs:List MV}{QL:List MV→MSt→Prop}:aq7 (.tup xs) st QL E=QL xs st:=rfl
theorem bKl {b:Bs}{QL:List MV→MSt→Prop}:aq7 (.bytes b) st QL E=QL (b.map fun c=>.int (c.toNat:Int)) st:=rfl
theorem bKk {es:Es}{QL:List MV→MSt→Prop}:aq7 (.dict es) st QL E=((ajn es).Nodup∧QL ((ajn es).map MV.bytes) st):=rfl
theorem bKi {xs:List Bs}{QL:List MV→MSt→Prop}:aq7 (.set xs) st QL E = ∀ ys:List Bs,ys.Perm xs→QL (ys.map MV.bytes) st:=rfl
theorem bKv {m:M (List MV)}{c:Value}{QF:MF→MSt→Prop}:bzK m c st QF E=m st (fun as st'=>gN as (axC c) st' QF E) E:=rfl
theorem bkg {mo:MO}{l:List MV}{o:List MO}:azo mo ⟨l,o⟩ Q E=Q (.obj o.length) ⟨l,o++[mo]⟩:=rfl
theorem bQa:aZg .none=some none:=rfl
theorem bQb {i:Int}:aZg (.int i)=some (some i):=rfl
theorem bX8 {a:MV}{p:Prop} (h:a≠.unb) (q:p):bV a p:=by rw [bJq h];exact q
theorem bxc {p:Prop}:bV .none p=p:=rfl
theorem aq3:isN .none=true:=rfl
theorem bxe {a:Bool}{p:Prop}:bV (.bool a) p=p:=rfl
theorem bQr {a:Bool}:isN (.bool a)=false:=rfl
theorem bJR {a:Int}{p:Prop}:bV (.int a) p=p:=rfl
theorem bK6 {a:Int}:isN (.int a)=false:=rfl
theorem bjr {a:Bs}{p:Prop}:bV (.bytes a) p=p:=rfl
theorem ajE {a:Bs}:isN (.bytes a)=false:=rfl
theorem bJO {a:Str}{p:Prop}:bV (.str a) p=p:=rfl
theorem bK3 {a:Str}:isN (.str a)=false:=rfl
theorem bJL {a:String}{p:Prop}:bV (.typ a) p=p:=rfl
theorem bK0 {a:String}:isN (.typ a)=false:=rfl
theorem bKL {a:String}{p:Prop}:bV (.bi a) p=p:=rfl
theorem n_bi {a:String}:isN (.bi a)=false:=rfl
theorem bJN {a:Nat}{p:Prop}:bV (.top a) p=p:=rfl
theorem bK2 {a:Nat}:isN (.top a)=false:=rfl
theorem bjq {a:List MV}{p:Prop}:bV (.list a) p=p:=rfl
theorem bQp {a:List MV}:isN (.list a)=false:=rfl
theorem bJM {a:List MV}{p:Prop}:bV (.tup a) p=p:=rfl
theorem bK1 {a:List MV}:isN (.tup a)=false:=rfl
theorem bxd {a:Es}{p:Prop}:bV (.dict a) p=p:=rfl
theorem bQq {a:Es}:isN (.dict a)=false:=rfl
theorem bJP {a:List Bs}{p:Prop}:bV (.set a) p=p:=rfl
theorem bK4 {a:List Bs}:isN (.set a)=false:=rfl
theorem bxb {a:Nat}{p:Prop}:bV (.refs a) p=p:=rfl
theorem bQo {a:Nat}:isN (.refs a)=false:=rfl
theorem bJQ {a:Nat}{p:Prop}:bV (.obj a) p=p:=rfl
theorem bK5 {a:Nat}:isN (.obj a)=false:=rfl
theorem bL0 {a:MV}{l:List MV}{p:Prop}:bL 0 (a::l) p=p:=rfl
theorem bLS {a:MV}{l:List MV}{p:Prop}{n:Nat}:bL (n + 1) (a::l) p=bL n l p:=rfl
theorem gdS {a z:MV}{l:List MV}{n:Nat}:(a::l).getD (n + 1) z=l.getD n z:=rfl
theorem gE0 {α : Type}{m:M α}{Q : α→MSt→Prop}:gE [] 0 m st Q E=m st Q E:=rfl
theorem gES {α : Type}{a:MV}{l:List MV}{n:Nat}{m:M α}{Q : α→MSt→Prop}:gE (a::l) (n + 1) m st Q E=gE l n m st Q E:=rfl
theorem bQD {a v:MV}{l:List MV}:(a::l).set 0 v=v::l:=rfl
theorem bQC {a v:MV}{l:List MV}{n:Nat}:(a::l).set (n + 1) v=a::l.set n v:=rfl
end
theorem g0_a {a z:MV}{l:List MV}:(a::l).getD 0 z=a:=rfl
theorem lc_a {a:MV}{l:List MV}:(a::l).length=l.length + 1:=rfl
theorem ln_a:([]:List MV).length=0:=rfl
theorem ac_a {a:MV}{l r:List MV}:(a::l)++r=a::(l++r):=rfl
theorem an_a {r:List MV}:[]++r=r:=rfl
theorem az_a {r:List MV}:r++[]=r:=List.append_nil r
theorem r0_a {a:MV}:List.replicate 0 a=[]:=rfl
theorem rs_a {a:MV}{n:Nat}:List.replicate (n + 1) a=a::List.replicate n a:=rfl
theorem bKK {v:MV}:MF.val (.ret v)=v:=rfl
theorem vn_a:MF.val .next = .none:=rfl
theorem dt_a:decide True=true:=rfl
theorem df_a:decide False=false:=rfl
end Mine
local macro_rules | `(tactic| walk_at $s:str) => do
 let t:=s.getString
 let l ← if t == "S" then pure "Mine.aK4 Mine.aQl Mine.bv8 Mine.bk4 Mine.bkJ Mine.bxK Mine.bxl Mine.bqP Mine.akN Mine.bvr Mine.bjJ Mine.bzX Mine.aqb Mine.bKv Mine.bQR Mine.bQm Mine.bKw Mine.bQk Mine.bvA Mine.bKp Mine.bkf Mine.tr_b Mine.tr_l Mine.tr_n Mine.tr_i Mine.isn Mine.bKW Mine.bQF Mine.bzQ Mine.bQS Mine.bzZ Mine.bv9 Mine.bvc Mine.bxY Mine.bZb Mine.bZa Mine.bvX Mine.bJX Mine.bQt Mine.bQu Mine.bK9 Mine.bKd Mine.bKt Mine.bZY Mine.bzU Mine.bzS Mine.bzT Mine.bzR Mine.aV0 Mine.bQK Mine.bQJ Mine.bQI Mine.bKA Mine.bk2 Mine.bZQ Mine.bKj Mine.bKh Mine.bKl Mine.bKk Mine.bKi Mine.bkg Mine.bQa Mine.bQb Mine.bQD Mine.bQC Mine.kB_a Mine.kR_a Mine.kD_a Mine.kL_a Mine.kS_a Mine.bKm Mine.bZH Mine.bKr Mine.g0_a Mine.gdS Mine.lc_a Mine.ln_a Mine.ac_a Mine.an_a Mine.r0_a Mine.rs_a Mine.bKK Mine.vn_a Mine.dt_a Mine.df_a Mine.bxc Mine.aq3 Mine.bL0 Mine.bLS Mine.oP_s Mine.gE0 Mine.gES Mine.gN0 Mine.gN1 Mine.gN2 Mine.gN3 Mine.gN4 Mine.gN5 Mine.gN6 Mine.gN7 Mine.gN8 Mine.gN9 Mine.gN10 Mine.bKZ Mine.gN12 Mine.gN13 Mine.MV.cl Mine.bxe Mine.bQr Mine.bJR Mine.bK6 Mine.bjr Mine.ajE Mine.bJO Mine.bK3 Mine.bJL Mine.bK0 Mine.bKL Mine.n_bi Mine.bJN Mine.bK2 Mine.bjq Mine.bQp Mine.bJM Mine.bK1 Mine.bxd Mine.bQq Mine.bJP Mine.bK4 Mine.bxb Mine.bQo Mine.bJQ Mine.bK5 cond_true cond_false Nat.reduceSub Nat.reduceAdd List.reduceReplicate Option.map_some Option.map_none Option.getD_some Option.getD_none Bool.not_true Bool.not_false Nat.zero_add" else if t == "N" then pure "Mine.bJq Mine.bxP Mine.bxz Mine.akd.same Mine.ake Mine.bKo Mine.az_a ne_eq reduceCtorEq not_false_eq_true true_and and_true Nat.reduceLeDiff Nat.reduceLT Option.some.injEq cond_true cond_false decide_true decide_false Bool.not_true Bool.not_false" else if t == "T" then pure "Mine.bxl Mine.bL0 Mine.bLS Mine.bQD Mine.bQC Mine.bxc Mine.bxe Mine.bJR Mine.bjr Mine.bJO Mine.bJL Mine.bKL Mine.bJN Mine.bjq Mine.bJM Mine.bxd Mine.bJP Mine.bxb Mine.bJQ" else Lean.Macro.throwUnsupported
 let n:=((l.splitOn " ").map fun s=>Lean.mkIdent s.toName).toArray
 if t == "N" then `(tactic| simp only [$[$n:ident],*]) else `(tactic| dsimp only [$[$n:ident],*])
local macro_rules | `(tactic| wide_open with [$ts,*]) => do
 let n:=(("Mine.bJq Mine.gN_h ne_eq reduceCtorEq not_false_eq_true true_and".splitOn " ").map fun s=>Lean.mkIdent s.toName).toArray
 let u:=ts.getElems
 if u.isEmpty then `(tactic| repeat (first | walk_at "S" | walk_at "N")) else `(tactic| repeat (first | walk_at "S" | simp only [$[$n:ident],*,$[$u:term],*] | walk_at "N"))
namespace Mine
open PySem PySem.W
theorem bvp {i:Int}{st:MSt}{Q:MV→MSt→Prop}{E:Value→MSt→Prop} :
  azG [.int i] st Q E=(if 48≤i∧i≤57 then Q (.int (i - 48)) st else if 65≤i∧i≤70 then Q (.int (i - 55)) st else if 97≤i∧i≤102 then Q (.int (i - 87)) st else E aQ6 st):=by
 unfold azG fnM aXm
 wide_open with []
 by_cases h1:48≤i<;>by_cases h2:i≤57<;>by_cases h3:65≤i<;>by_cases h4:i≤70<;>by_cases h5:97≤i<;>by_cases h6:i≤102<;>simp [h1,h2,h3,h4,h5,h6]
theorem aXc {b:Bs}{st:MSt}{Q:MV→MSt→Prop}{E:Value→MSt→Prop}:azI [.bytes b] st Q E=Q (.bytes b) st:=by
 unfold azI fnM bvC
 wide_open with []
theorem aVT {b:Bs}{st:MSt}{Q:MV→MSt→Prop}{E:Value→MSt→Prop}:akm [.bytes b] st Q E=Q (.bytes b) st:=by
 unfold akm fnM avD
 wide_open with []
end Mine
section
namespace Mine
open PySem PySem.W
noncomputable abbrev D:=List (Bs×Bs)
noncomputable def emb (d:D):Es:=d.map fun e=>(e.1,.bytes e.2)
noncomputable def ajp (d:D) (k:Bs):Option Bs:=(d.find? fun e=>decide (e.1=k)).map (·.2)
noncomputable abbrev aj7 (d:D):List Bs:=d.map (·.1)
noncomputable def aJh (d:D) (k v:Bs):D:=if d.any (fun e=>decide (e.1=k)) then d.map (fun e=>if e.1=k then (e.1,v) else e) else d++[(k,v)]
noncomputable def aQ5 (d:D) (k:Bs):D:=d.filter fun e=>decide (e.1≠k)
theorem akr:∀ (d:D) (k:Bs),aqr (emb d) k=(ajp d k).map MV.bytes
 | [],k=>rfl
 | e::d,k=>by
  have ih:=akr d k
  unfold aqr ajp emb at ih ⊢
  rw [List.map_cons,List.find?_cons,List.find?_cons]
  by_cases h:e.1=k
  ·simp only [h,decide_true,Option.map_some]
  ·simp only [h,decide_false]
   exact ih
theorem ajC (d:D):ajn (emb d)=aj7 d:=by unfold ajn emb aj7;rw [List.map_map];rfl
theorem bz5 (d:D) (k v:Bs):aXk (emb d) k (.bytes v)=emb (aJh d k v):=by
 unfold aXk aJh emb
 rw [List.any_map]
 have:((fun e:Bs×MV=>decide (e.1=k)) ∘ fun e:Bs×Bs=>(e.1,MV.bytes e.2))=fun e:Bs×Bs=>decide (e.1=k):=rfl
 rw [this]
 split
 ·rw [List.map_map,List.map_map]
  apply List.map_congr_left
  intro e _
  show (if e.1=k then (e.1,MV.bytes v) else (e.1,MV.bytes e.2))=_
  split<;>rename_i h<;>simp [h]
 ·rw [List.map_append];rfl
theorem bJ4 (d:D) (k:Bs):aXl (emb d) k=emb (aQ5 d k):=by
 unfold aXl aQ5 emb
 rw [List.filter_map];rfl
theorem axE (n:Nat):∀ d:D,MV.cld n (emb d)
 | []=>trivial
 | e::d=>by
  have:=axE n d
  unfold emb at this ⊢
  rw [List.map_cons]
  exact ⟨trivial,this⟩
theorem avH (d:D):(emb d).length=d.length:=by unfold emb;rw [List.length_map]
theorem avb (d:D):akz (emb d):=fun e he=>by
 refine ajl (List.mem_map.mp he) fun x _ e1_=>?_;subst e1_
 exact ⟨_,rfl⟩
theorem aJs {d:D}{k v:Bs} (h:ajp d k=some v):(k,v)∈d:=by
 refine ajl (Option.map_eq_some_iff.mp h) fun e h1 e2_=>?_;subst e2_
 have h2:=List.find?_some h1
 have h3:=List.mem_of_find?_eq_some h1
 have:e.1=k:=of_decide_eq_true h2
 rw [← this];exact h3
theorem az1 {d:D}{k:Bs}:ajp d k=none↔k∉aj7 d:=by
 dsimp only [ajp]
 rw [Option.map_eq_none_iff,List.find?_eq_none]
 constructor
 ·intro h hm
  refine ajl (List.mem_map.mp hm) fun e he hk=>?_
  exact h e he (decide_eq_true hk)
 ·intro h e he hk
  exact h (List.mem_map.mpr ⟨e,he,of_decide_eq_true hk⟩)
theorem aJU {d:D} (hn:(aj7 d).Nodup) {k v:Bs} (h:(k,v)∈d):ajp d k=some v:=by
 induction d with
 | nil=>cases h
 | cons e d ih=>
  unfold ajp at ih;dsimp only [ajp]
  rw [List.find?_cons]
  have hn':=List.nodup_cons.mp hn
  rcases List.mem_cons.mp h with rfl | h
  ·simp
  ·have:e.1≠k:=fun z=>hn'.1 (List.mem_map.mpr ⟨_,h,z.symm⟩)
   simp only [this,decide_false]
   exact ih hn'.2 h
theorem azx {d:D}{k:Bs}:(ajp d k).isSome=decide (k∈aj7 d):=by
 cases h:ajp d k with
 | none=>rw [decide_eq_false (az1.mp h)];rfl
 | some v=>rw [decide_eq_true (List.mem_map.mpr ⟨_,aJs h,rfl⟩)];rfl
theorem aXF (d e:D) (k:Bs):ajp (d++e) k=(ajp d k).or (ajp e k):=by
 dsimp only [ajp]
 rw [List.find?_append]
 cases List.find? (fun e=>decide (e.1=k)) d<;>rfl
theorem aJV (d:D) (k x:Bs):ajp (aQ5 d k) x=if x=k then none else ajp d x:=by
 induction d with
 | nil=>simp [aQ5,ajp]
 | cons e d ih=>
  unfold aQ5 at ih;dsimp only [aQ5]
  rw [List.filter_cons]
  by_cases h:e.1=k
  ·rw [if_neg (by simp [h]),ih]
   split
   ·rfl
   ·rename_i hx
    dsimp only [ajp]
    rw [List.find?_cons]
    have:¬ e.1=x:=fun z=>hx (z.symm.trans h)
    simp only [this,decide_false]
  ·rw [if_pos (by simp [h])]
   unfold ajp at ih;dsimp only [ajp]
   rw [List.find?_cons,List.find?_cons]
   by_cases hx:e.1=x
   ·have:¬ x=k:=fun z=>h (hx.trans z)
    simp only [hx,decide_true,this,if_false]
   ·simp only [hx,decide_false]
    exact ih
theorem ak6 (d:D) (k v x:Bs):ajp (aJh d k v) x=if x=k then some v else ajp d x:=by
 dsimp only [aJh]
 split
 ·rename_i hany
  have:∀ d:D,ajp (d.map fun e=>if e.1=k then (e.1,v) else e) x=if x=k∧d.any (fun e=>decide (e.1=k))=true then some v else ajp d x:=by
   intro d
   induction d with
   | nil=>simp [ajp]
   | cons e d ih=>
    rw [List.map_cons,List.any_cons]
    unfold ajp at ih;unfold ajp
    rw [List.find?_cons,List.find?_cons]
    by_cases h:e.1=k
    ·simp only [h,if_true,decide_true,Bool.true_or,and_true]
     by_cases hx:x=k
     ·simp [hx]
     ·have:¬ k=x:=fun z=>hx z.symm
      simp only [this,decide_false,hx,if_false]
      rw [ih,if_neg (by simp [hx])]
    ·simp only [h,if_false,decide_false,Bool.false_or]
     by_cases hx:e.1=x
     ·have:¬ x=k:=fun z=>h (hx.trans z)
      simp [hx,this]
     ·simp only [hx,decide_false]
      exact ih
  rw [this d,hany]
  simp
 ·rename_i hany
  rw [aXF]
  by_cases hx:x=k
  ·rw [if_pos hx]
   have:ajp d x=none:=az1.mpr fun hm=>by
    refine ajl (List.mem_map.mp hm) fun e he hk=>?_
    exact hany (List.any_eq_true.mpr ⟨e,he,decide_eq_true (hk.trans hx)⟩)
   rw [this,hx]
   simp [ajp]
  ·rw [if_neg hx]
   have:ajp [(k,v)] x=none:=by
    dsimp only [ajp]
    have:¬ k=x:=fun z=>hx z.symm
    simp [this]
   rw [this,Option.or_none]
theorem azh {d:D} (h:(aj7 d).Nodup) (k v:Bs):(aj7 (aJh d k v)).Nodup:=by
 dsimp only [aJh]
 split
 ·have:aj7 (d.map fun e=>if e.1=k then (e.1,v) else e)=aj7 d:=by
   dsimp only [aj7]
   rw [List.map_map]
   apply List.map_congr_left
   intro e _
   show (if e.1=k then (e.1,v) else e).1=e.1
   split<;>rfl
  rw [this];exact h
 ·rename_i hany
  dsimp only [aj7]
  rw [List.map_append]
  refine List.nodup_append.mpr ⟨h,by simp,fun a ha b hb=>?_⟩
  rw [List.map_singleton,List.mem_singleton] at hb
  subst hb
  refine ajl (List.mem_map.mp ha) fun e he hk=>?_
  intro z
  exact hany (List.any_eq_true.mpr ⟨e,he,decide_eq_true (hk.trans z)⟩)
theorem ak2 {d:D} (h:(aj7 d).Nodup) (k:Bs):(aj7 (aQ5 d k)).Nodup:=by
 exact h.sublist ((List.filter_sublist).map _)
theorem axr (d:D) (k v:Bs):(aJh d k v).length≤d.length + 1:=by
 dsimp only [aJh]
 split
 ·rw [List.length_map];walk_at "O"
 ·rw [List.length_append];exact Nat.le_refl _
theorem avc (d:D) (k:Bs):(aQ5 d k).length≤d.length:=List.length_filter_le _ _
theorem bkl {d:D}{k v:Bs}{e:Bs×Bs} (h:e∈aJh d k v):e=(k,v)∨e∈d:=by
 dsimp only [aJh] at h
 split at h
 ·refine ajl (List.mem_map.mp h) fun e' h1 h2=>?_
  split at h2
  ·rename_i hk;left;rw [← h2,hk]
  ·right;rw [← h2];exact h1
 ·rcases List.mem_append.mp h with h | h
  ·exact .inr h
  ·exact .inl (List.mem_singleton.mp h)
theorem aVc {d:D}{k:Bs}{e:Bs×Bs} (h:e∈aQ5 d k):e∈d:=(List.mem_filter.mp h).1
theorem aJH:∀ {l m:List Bs},l.Nodup→l ⊆ m→l.length≤m.length
 | [],m,_,_=>Nat.zero_le _
 | a::l,m,hn,hs=>by
  have hn':=List.nodup_cons.mp hn
  have ha:a∈m:=hs (.head _)
  have:l ⊆ m.erase a:=fun x hx=>by
   have hxa:x≠a:=fun z=>hn'.1 (z ▸ hx)
   exact (List.mem_erase_of_ne hxa).mpr (hs (.tail _ hx))
  have h2:=aJH hn'.2 this
  have h3:=List.length_erase_of_mem ha
  have h4:0 < m.length:=List.length_pos_of_mem ha
  rw [List.length_cons]
  walk_at "O"
theorem aKB {a b:D} (ha:(aj7 a).Nodup) (hb:(aj7 b).Nodup) (h:∀ k,ajp a k=ajp b k):dictEq (emb a) (emb b)=true:=by
 have hsub:∀ {a b:D},(∀ k,ajp a k=ajp b k)→aj7 a ⊆ aj7 b:=fun {a b} h k hk=>by
  rcases Decidable.em (k∈aj7 b) with z | z
  ·exact z
  ·have:=az1.mpr z
   rw [← h k] at this
   exact absurd hk (az1.mp this)
 have hl:a.length=b.length:=by
  have h1:=aJH ha (hsub h)
  have h2:=aJH hb (hsub fun k=>(h k).symm)
  rw [List.length_map,List.length_map] at h1 h2
  walk_at "O"
 unfold dictEq
 rw [avH,avH,decide_eq_true hl,Bool.true_and,List.all_eq_true]
 intro e he
 refine ajl (List.mem_map.mp he) fun x hx e3_=>?_;subst e3_
 have:=aJU ha (show (x.1,x.2)∈a from hx)
 rw [h] at this
 simp only [akr,this,Option.map_some,beq_self_eq_true]
end Mine
end
namespace Mine
open PySem PySem.W
noncomputable abbrev akb:Bs:=[114,101,102,58,32]
theorem azi (b c:Bs):aqL b c=decide (b.take c.length=c):=by
 unfold aqL
 rw [azN]
 by_cases h:c.length≤b.length
 ·rw [decide_eq_true h,Bool.true_and]
 ·rw [decide_eq_false h,Bool.false_and]
  symm
  refine decide_eq_false fun z=>h ?_
  have:=congrArg List.length z
  rw [List.length_take] at this
  walk_at "O"
theorem akt (b:List α) (n:Nat):axx b (some (n:Int)) none=b.drop n:=by
 unfold axx
 have h:(some (n:Int)).elim 0 (clipAt b.length)=min n b.length:=by
  show clipAt b.length (n:Int)=_
  have:=clipAt_cast b.length (n:Int)
  rw [if_neg (by walk_at "O")] at this
  walk_at "O"
 rw [h]
 show (b.drop (min n b.length)).take (b.length - min n b.length)=_
 rw [List.take_of_length_le (by rw [List.length_drop];walk_at "O")]
 by_cases h2:n≤b.length
 ·rw [Nat.min_eq_left h2]
 ·rw [Nat.min_eq_right (by walk_at "O"),List.drop_length,List.drop_of_length_le (by walk_at "O")]
theorem aks (b:List α) (n:Nat):axx b none (some (n:Int))=b.take n:=by
 unfold axx
 have h:(some (n:Int)).elim b.length (clipAt b.length)=min n b.length:=by
  show clipAt b.length (n:Int)=_
  have:=clipAt_cast b.length (n:Int)
  rw [if_neg (by walk_at "O")] at this
  walk_at "O"
 rw [h]
 show (b.drop 0).take (min n b.length - 0)=_
 rw [List.drop_zero,Nat.sub_zero]
 by_cases h2:n≤b.length
 ·rw [Nat.min_eq_left h2]
 ·rw [Nat.min_eq_right (by walk_at "O"),List.take_length,List.take_of_length_le (by walk_at "O")]
section
variable {l:List MV}{o:List MO}{d:D}{Q:MV→MSt→Prop}{E:Value→MSt→Prop}
theorem bjo (h:o[1]? = some (.dict (emb d))):ajZ ⟨l,o⟩ (.obj 1)=some (emb d):=by
 show (match o[1]? with | some (.dict es)=>some es | _=>none)=_
 rw [h]
theorem bzL:ajZ ⟨l,o⟩ (.dict (emb d))=some (emb d):=rfl
theorem dg3 {a:MV} (h:ajZ ⟨l,o⟩ a=some (emb d)) (hn:(aj7 d).Nodup) {k:Bs}{z:MV}:axe [a,.bytes k,z] ⟨l,o⟩ Q E=Q (((ajp d k).map .bytes).getD z) ⟨l,o⟩:=by
 rw [bJd]
 simp only [h,Option.some.injEq,exists_eq_left',ajC,hn,true_and,akr]
theorem dg2 {a:MV} (h:ajZ ⟨l,o⟩ a=some (emb d)) (hn:(aj7 d).Nodup) {k:Bs}:axe [a,.bytes k] ⟨l,o⟩ Q E=Q (((ajp d k).map .bytes).getD .none) ⟨l,o⟩:=by
 rw [bJe]
 simp only [h,Option.some.injEq,exists_eq_left',ajC,hn,true_and,akr]
theorem isD {a:MV} (h:ajZ ⟨l,o⟩ a=some (emb d)) (hn:(aj7 d).Nodup):aVi a ⟨l,o⟩=True:=by
 unfold aVi
 simp only [h,Option.some.injEq,exists_eq_left',ajC,hn]
theorem bZS {mo:MO} (h:o[1]? = some (.dict (emb d))):(o.set 1 mo)[1]? = some mo:=List.getElem?_set_self (List.getElem?_eq_some_iff.mp h).1
theorem aJl {mo:MO}:(o.set 1 mo).take o.length=o.set 1 mo:=List.take_of_length_le (by rw [List.length_set];exact Nat.le_refl _)
theorem aJq {es:D}:akd o (o.set 1 (.dict (emb es))):=fun i mo hi h=>by
 by_cases z:1=i
 ·subst z
  rw [List.getElem?_set_self hi] at h
  cases h
  right
  show MV.cld _ _
  exact axE _ _
 ·rw [List.getElem?_set_ne z] at h
  exact .inl h
theorem aqA {v:Option Bs}:((v.map MV.bytes).getD .none≠.unb)=True:=by cases v<;>simp
theorem aKx {v:Option Bs}{n:Nat}:((v.map MV.bytes).getD .none).cl n=True:=by cases v<;>rfl
theorem akV (h:o[1]? = some (.dict (emb d))) (hn:(aj7 d).Nodup) (hl:d.length≤1000):aqy [.refs 1] ⟨l,o⟩ Q E=Q (.set (aj7 d)) ⟨l,o⟩:=by
 unfold aqy fnM aJL aZt
 wide_open with [bjo h,exists_eq_left',ajC,hn,avH,hl]
theorem aK9 (h:o[1]? = some (.dict (emb d))) (hn:(aj7 d).Nodup) {k:Bs}:aqe [.refs 1,.bytes k] ⟨l,o⟩ Q E=Q (((ajp d k).map .bytes).getD .none) ⟨l,o⟩:=by
 unfold aqe fnM az4
 wide_open with [dg3 (bjo h) hn,isD (bjo h) hn,aKx]
theorem bkb:aq1 [.refs 1] ⟨l,o⟩ Q E=Q (.dict []) ⟨l,o⟩:=by
 unfold aq1 fnM aqT
 wide_open with [MV.cld]
noncomputable def okV (d:D):Prop:=∀ e∈d,e.2≠[]∧e.2.length≤1000
theorem akY {k v:Bs} (h:okV d) (e:ajp d k=some v):v≠[]∧v.length≤1000:=h _ (aJs e)
theorem avx (h:o[1]? = some (.dict (emb d))) (hn:(aj7 d).Nodup) (hv:okV d) {k:Bs}:aq4 [.refs 1,.bytes k] ⟨l,o⟩ Q E=Q (((ajp d k).map .bytes).getD .none) ⟨l,o⟩:=by
 have e0:ajZ ⟨[.refs 1,.bytes k,.none],o⟩ (.dict [])=some (emb []):=rfl
 unfold aq4 fnM avC
 wide_open with [aK9 h hn,aqA]
 cases hg:ajp d k with
 | none=>
  wide_open with [bkb,isD e0 (by simp [aj7]),dg3 e0 (by simp [aj7]),show ajp ([]:D) k=none from rfl]
 | some v=>
  obtain ⟨h1,h2⟩:=akY hv hg
  wide_open with [h1,show v.length≤1099511627776 by walk_at "O"]
theorem aVQ (h:o[1]? = some (.dict (emb d))) (hn:(aj7 d).Nodup) (hv:okV d) {k:Bs}:azH [.refs 1,.bytes k] ⟨l,o⟩ Q E=Q (.bool (decide (k∈aj7 d))) ⟨l,o⟩:=by
 rw [← azx]
 unfold azH fnM axM
 wide_open with [avx h hn hv]
 cases hg:ajp d k with
 | none=>wide_open with [Option.isSome_none]
 | some v=>
  obtain ⟨h1,h2⟩:=akY hv hg
  wide_open with [Option.isSome_some,h1,show v.length≤1099511627776 by walk_at "O"]
theorem aKE {b:List α}:axx b (some 5) none=b.drop 5:=akt b 5
theorem avI {b:List α}:axx b none (some 5)=b.take 5:=aks b 5
theorem aXa {b:Bs} (hb:b.length≤1000):ajm [.bytes b] ⟨l,o⟩ Q E=if b.take 5=akb then Q (.bytes (ajy false true [13,10] (b.drop 5))) ⟨l,o⟩ else E aQ6 ⟨l,o⟩:=by
 unfold ajm fnM aqh
 have e2:(b.drop 5).length≤1000:=by rw [List.length_drop];walk_at "O"
 wide_open with [azi,(@List.length_cons UInt8),(@List.length_nil UInt8),Int.cast_ofNat_Int,exists_eq_left',aKE,show b.length≤16777216 by walk_at "O",show (b.drop 5).length≤16777216 by walk_at "O"]
 by_cases hs:b.take 5=akb<;>simp [hs,aKE]
end
end Mine
namespace Mine
open PySem PySem.W
noncomputable abbrev iC (c:UInt8):MV:=.int (c.toNat:Int)
noncomputable abbrev iL (p:Bs):List MV:=p.map iC
theorem bqQ {a b:UInt8}:((a.toNat:Int)=(b.toNat:Int))↔a=b:=by
 constructor
 ·intro h;exact UInt8.toNat_inj.mp (by walk_at "O")
 ·rintro rfl;rfl
theorem aVa:∀ p q:Bs,aJc (iL p) (iL q)=some (decide (p=q))
 | [],[]=>rfl
 | [],_::_=>rfl
 | _::_,[]=>rfl
 | a::p,b::q=>by
  have ih:=aVa p q
  show bJG (some (decide ((a.toNat:Int)=(b.toNat:Int)))) (aJc (iL p) (iL q))=_
  rw [ih]
  show some (_ && _)=some _
  rw [← Bool.decide_and]
  exact congrArg some (decide_eq_decide.mpr (by rw [List.cons.injEq,bqQ]))
theorem bqn:∀ p:Bs,bzJ (iL p)=0
 | []=>rfl
 | a::p=>(congrArg (max 0) (bqn p)).trans rfl
section
variable {l:List MV}{o:List MO}{Q:MV→MSt→Prop}{E:Value→MSt→Prop}{st:MSt}
theorem bxL (p q:Bs):cond (Nat.ble (mvD (.list (iL p))) 8) (aVb (.list (iL p)) (.list (iL q))) none=some (decide (p=q)):=by
 have h2:mvD (.list (iL p))=1:=congrArg (· + 1) (bqn p)
 rw [h2];exact aVa p q
theorem bQQ {p q:Bs}:mEq (.list (iL p)) (.list (iL q)) st Q E=Q (.bool (decide (p=q))) st:=by unfold mEq;rw [bxL];rfl
theorem bQl {p q:Bs}:mNe (.list (iL p)) (.list (iL q)) st Q E=Q (.bool (!decide (p=q))) st:=by unfold mNe;rw [bxL];rfl
theorem bJ3 {p:Bs}:mEq (.list (iL p)) (.list [.int 46,.int 108,.int 111,.int 99,.int 107]) st Q E=Q (.bool (decide (p=azv))) st:=bQQ (q:=azv)
theorem bvz {p:Bs}:mNe (.list (iL p)) (.list [.int 46,.int 108,.int 111,.int 99,.int 107]) st Q E=Q (.bool (!decide (p=azv))) st:=bQl (q:=azv)
theorem bxM {p:Bs}:mEq (.list (iL p)) (.list []) st Q E=Q (.bool (decide (p=[]))) st:=bQQ (q:=[])
theorem bxy {p:Bs}:mNe (.list (iL p)) (.list []) st Q E=Q (.bool (!decide (p=[]))) st:=bQl (q:=[])
end
theorem bZ1 (b:List α):axx b (some (-5)) none=b.drop (b.length - 5):=by
 unfold axx
 have h:=clipAt_cast b.length (-5)
 rw [if_pos (by decide)] at h
 have h2:(some (-5):Option Int).elim 0 (clipAt b.length)=b.length - 5:=by
  show clipAt b.length (-5)=_
  walk_at "O"
 rw [h2]
 show (b.drop (b.length - 5)).take (b.length - (b.length - 5))=_
 rw [List.take_of_length_le (by rw [List.length_drop];walk_at "O")]
theorem aKD (p:Bs):axx (iL p) (some (-5)) none=iL (akH p):=by
 rw [bZ1,List.length_map];unfold akH iL;rw [List.map_drop]
theorem bKs (c n:UInt8):(((n.toNat:Int)) == (c.toNat:Int))=(c == n):=by
 by_cases h:c=n
 ·subst h;rw [beq_self_eq_true,beq_self_eq_true]
 ·rw [beq_eq_false_iff_ne.mpr fun z=>h (bqQ.mp z).symm,beq_eq_false_iff_ne.mpr h]
theorem aVl (c:UInt8):∀ l:Bs,axa (c.toNat:Int) (l.map iC)=some (l.contains c)
 | []=>rfl
 | a::l=>by
  show ((axa (c.toNat:Int) (l.map iC)).map fun b=>((a.toNat:Int) == (c.toNat:Int)) || b)=_
  rw [aVl c l,bKs,List.contains_cons];rfl
theorem bQ2 (c:UInt8):axa (c.toNat:Int) [.int 32,.int 42,.int 58,.int 63,.int 91,.int 92,.int 94,.int 126,.int 127]=some (([32,42,58,63,91,92,94,126,127]:Bs).contains c):=aVl c [32,42,58,63,91,92,94,126,127]
theorem bkG {c:UInt8}{st:MSt}{Q:MV→MSt→Prop}{E:Value→MSt→Prop}:mIn (.int (c.toNat:Int)) (.tup [.int 32,.int 42,.int 58,.int 63,.int 91,.int 92,.int 94,.int 126,.int 127]) st Q E=Q (.bool (([32,42,58,63,91,92,94,126,127]:Bs).contains c)) st:=by
 have h:inV st (.int (c.toNat:Int)) (.tup [.int 32,.int 42,.int 58,.int 63,.int 91,.int 92,.int 94,.int 126,.int 127])=some (([32,42,58,63,91,92,94,126,127]:Bs).contains c):=bQ2 c
 exact bqJ h
noncomputable def aXg (loose:Bool) (part:Bs) (last:UInt8) (slash:Bool) (c:UInt8):Option (Bs×UInt8×Bool):=
 if !aqZ c then none
 else if c=47 then (if decide (akH part=azv) || (part.isEmpty && !loose) then none else some ([],47,slash || !part.isEmpty))
 else if c=46 && (part.isEmpty || decide (last=46)) then none
 else if c=123 && decide (last=64) then none
 else some (part++[c],c,slash)
noncomputable def bJA (loose:Bool):Bs→UInt8→Bool→Bs→Option (Bs×UInt8×Bool)
 | part,last,slash,[]=>some (part,last,slash)
 | part,last,slash,c::r=>(aXg loose part last slash c).bind fun x=>bJA loose x.1 x.2.1 x.2.2 r
noncomputable def bJC (x:Option (Bs×UInt8×Bool)):Bool:=match x with
 | none=>false
 | some (part,last,slash)=>slash && !part.isEmpty && !decide (last=46) && !decide (akH part=azv)
theorem aJR {p:Prop} [Decidable p] {a b:Bool}{x y:Option (Bs×UInt8×Bool)}{f:Bs×UInt8×Bool→Option (Bs×UInt8×Bool)} (h1:a=bJC (x.bind f)) (h2:b=bJC (y.bind f)):(if p then a else b)=bJC ((if p then x else y).bind f):=by
 by_cases h:p
 ·rw [if_pos h,if_pos h];exact h1
 ·rw [if_neg h,if_neg h];exact h2
theorem bjR (loose:Bool):∀ (r part:Bs) (last:UInt8) (slash:Bool),run loose part last slash r=bJC (bJA loose part last slash r)
 | [],part,last,slash=>rfl
 | c::r,part,last,slash=>aJR rfl (aJR (aJR rfl (bjR loose r _ _ _)) (aJR rfl (aJR rfl (bjR loose r _ _ _))))
theorem isE (p:Bs):decide (p=[])=p.isEmpty:=by cases p<;>rfl
noncomputable abbrev axz:M MF:=(ajc (ifM (ifM (ajh (getL 5) (ret (MV.int 32)) mLt aj3) (ret true) (ifM (ajh (getL 5) (aka (aj0 (ret (MV.int 32)) (aj0 (ret (MV.int 42)) (aj0 (ret (MV.int 58)) (aj0 (ret (MV.int 63)) (aj0 (ret (MV.int 91)) (aj0 (ret (MV.int 92)) (aj0 (ret (MV.int 94)) (aj0 (ret (MV.int 126)) (aj0 (ret (MV.int 127)) (ret []))))))))))) mIn aj3) (ret true) (ret false))) (aju (ret (MV.bool false))) (ret MF.next))
 (ajc (ifM (ajh (getL 5) (ret (MV.int 47)) mEq aj3) (ajc (ifM (ifM (ajh (aje (getL 2) (bnd (ret (MV.int 5)) aJd) (ret MV.none)) (aqi (aj0 (ret (MV.int 46)) (aj0 (ret (MV.int 108)) (aj0 (ret (MV.int 111)) (aj0 (ret (MV.int 99)) (aj0 (ret (MV.int 107)) (ret []))))))) mEq aj3) (ret true) (ifM (ifM (ajh (getL 2) (aqi (ret [])) mEq aj3) (ifM (aKU (bnd (getL 1) aj3)) (ret true) (ret false)) (ret false)) (ret true) (ret false))) (aju (ret (MV.bool false))) (ret MF.next))
 (bnd (aka (aj0 (aqi (ret [])) (aj0 (orV (getL 4) (ajs (getL 2) (aqi (ret [])) mNe)) (ret [])))) (azm fun xs=>gE xs 2 (bnd ((ajg (ajD 4) (ajg (ajD 2) aqj)) xs.reverse) fun _=>ret MF.next)))) (ifM (ifM (ajh (getL 5) (ret (MV.int 46)) mEq aj3) (ifM (ifM (ajh (getL 2) (aqi (ret [])) mEq aj3) (ret true) (ifM (ajh (getL 3) (ret (MV.int 46)) mEq aj3) (ret true) (ret false))) (ret true) (ret false)) (ret false)) (aju (ret (MV.bool false))) (ifM (ifM (ajh (getL 5) (ret (MV.int 123)) mEq aj3) (ifM (ajh (getL 3) (ret (MV.int 64)) mEq aj3) (ret true) (ret false)) (ret false)) (aju (ret (MV.bool false))) (aqc (ajs (getL 2) (aqi (aj0 (getL 5) (ret []))) akc) 2))))
 (aqc (getL 5) 3)))
theorem bZp (c n:UInt8):decide ((c.toNat:Int)=(n.toNat:Int))=decide (c=n):=by
 by_cases h:c=n
 ·subst h;simp
 ·rw [decide_eq_false h,decide_eq_false fun z=>h (bqQ.mp z)]
theorem bxI (c:UInt8):decide ((c.toNat:Int) < 32)=decide (c.toNat < 32):=by
 by_cases h:c.toNat < 32
 ·rw [decide_eq_true h,decide_eq_true (by walk_at "O")]
 ·rw [decide_eq_false h,decide_eq_false (by walk_at "O")]
theorem i47 (c:UInt8):decide ((c.toNat:Int)=47)=decide (c=47):=bZp c 47
theorem i46 (c:UInt8):decide ((c.toNat:Int)=46)=decide (c=46):=bZp c 46
theorem i123 (c:UInt8):decide ((c.toNat:Int)=123)=decide (c=123):=bZp c 123
theorem i64 (c:UInt8):decide ((c.toNat:Int)=64)=decide (c=64):=bZp c 64
section
variable {st:MSt}{Q:MF→MSt→Prop}{E:Value→MSt→Prop}
theorem bjH {c:M Bool}{A B R:M MF} (h:∀ QB:Bool→MSt→Prop,c st QB E=QB true st):ajc (ifM c A B) R st Q E=ajc A R st Q E:=by rw [akN,bqP,h,akN];rfl
theorem bjI {c:M Bool}{A B R:M MF} (h:∀ QB:Bool→MSt→Prop,c st QB E=QB false st):ajc (ifM c A B) R st Q E=ajc B R st Q E:=by rw [akN,bqP,h,akN];rfl
theorem bZJ {R:M MF}:ajc (ret .next) R st Q E=R st Q E:=rfl
theorem bZK {A B R:M MF}:ajc (ajc A B) R st Q E=ajc A (ajc B R) st Q E:=by
 rw [akN,akN,akN]
 congr 1
 funext f st'
 cases f<;>rfl
end
section
variable {b part:Bs}{loose slash:Bool}{last c:UInt8}{o:List MO}{E:Value→MSt→Prop}
noncomputable abbrev stN (b:Bs) (loose:Bool) (part:Bs) (last:UInt8) (slash:Bool) (c:UInt8) (o:List MO):MSt:=⟨[.bytes b,.bool loose,.list (iL part),iC last,.bool slash,iC c],o⟩
theorem cn1 {QB:Bool→MSt→Prop}:(ifM (ajh (getL 5) (ret (MV.int 32)) mLt aj3) (ret true) (ifM (ajh (getL 5) (aka (aj0 (ret (MV.int 32)) (aj0 (ret (MV.int 42)) (aj0 (ret (MV.int 58)) (aj0 (ret (MV.int 63)) (aj0 (ret (MV.int 91)) (aj0 (ret (MV.int 92)) (aj0 (ret (MV.int 94)) (aj0 (ret (MV.int 126)) (aj0 (ret (MV.int 127)) (ret []))))))))))) mIn aj3) (ret true) (ret false))) (stN b loose part last slash c o) QB E=QB (!aqZ c) (stN b loose part last slash c o):=by
 have hk:(!aqZ c)=(decide (c.toNat < 32) || ([32,42,58,63,91,92,94,126,127]:Bs).contains c):=by
  show (!(!decide (c.toNat < 32) && !([32,42,58,63,91,92,94,126,127]:Bs).contains c))=_
  rw [Bool.not_and,Bool.not_not,Bool.not_not]
 rw [hk]
 wide_open with [bkG,bxI]
 cases decide (c.toNat < 32)<;>cases ([32,42,58,63,91,92,94,126,127]:Bs).contains c<;>rfl
theorem cn2 {QB:Bool→MSt→Prop}:(ajh (getL 5) (ret (MV.int 47)) mEq aj3) (stN b loose part last slash c o) QB E=QB (decide (c=47)) (stN b loose part last slash c o):=by
 wide_open with [i47]
theorem cn3 {QB:Bool→MSt→Prop} (hp:part.length≤1000):(ifM (ajh (aje (getL 2) (bnd (ret (MV.int 5)) aJd) (ret MV.none)) (aqi (aj0 (ret (MV.int 46)) (aj0 (ret (MV.int 108)) (aj0 (ret (MV.int 111)) (aj0 (ret (MV.int 99)) (aj0 (ret (MV.int 107)) (ret []))))))) mEq aj3) (ret true) (ifM (ifM (ajh (getL 2) (aqi (ret [])) mEq aj3) (ifM (aKU (bnd (getL 1) aj3)) (ret true) (ret false)) (ret false)) (ret true) (ret false))) (stN b loose part last slash c o) QB E=QB (decide (akH part=azv) || (part.isEmpty && !loose)) (stN b loose part last slash c o):=by
 have hlen:(iL part).length≤10000:=by rw [List.length_map];walk_at "O"
 wide_open with [bJ3,bxM,aKD,hlen,isE]
 cases decide (akH part=azv)<;>cases part.isEmpty<;>cases loose<;>rfl
theorem cn4 {QB:Bool→MSt→Prop}:(ifM (ajh (getL 5) (ret (MV.int 46)) mEq aj3) (ifM (ifM (ajh (getL 2) (aqi (ret [])) mEq aj3) (ret true) (ifM (ajh (getL 3) (ret (MV.int 46)) mEq aj3) (ret true) (ret false))) (ret true) (ret false)) (ret false)) (stN b loose part last slash c o) QB E=QB (decide (c=46) && (part.isEmpty || decide (last=46))) (stN b loose part last slash c o):=by
 wide_open with [i46,bxM,isE]
 cases decide (c=46)<;>cases part.isEmpty<;>cases decide (last=46)<;>rfl
theorem cn5 {QB:Bool→MSt→Prop}:(ifM (ajh (getL 5) (ret (MV.int 123)) mEq aj3) (ifM (ajh (getL 3) (ret (MV.int 64)) mEq aj3) (ret true) (ret false)) (ret false)) (stN b loose part last slash c o) QB E=QB (decide (c=123) && decide (last=64)) (stN b loose part last slash c o):=by
 wide_open with [i123,i64]
 cases decide (c=123)<;>cases decide (last=64)<;>rfl
end
theorem bj9 {b:Bs}{loose slash:Bool}{part:Bs}{last c:UInt8}{o:List MO} (hp:part.length≤1000) :
  match aXg loose part last slash c with
  | none=>∃ st',st'.objs=o∧∀ Q E,axz ⟨[.bytes b,.bool loose,.list (iL part),iC last,.bool slash,iC c],o⟩ Q E=Q (.ret (.bool false)) st'
  | some (p',l',s')=>∀ Q E,axz ⟨[.bytes b,.bool loose,.list (iL part),iC last,.bool slash,iC c],o⟩ Q E=Q .next ⟨[.bytes b,.bool loose,.list (iL p'),iC l',.bool s',iC c],o⟩:=by
 have hlen2:(iL part).length≤9999:=by rw [List.length_map];walk_at "O"
 unfold aXg
 cases h1 : !aqZ c with
 | true=>exact ⟨stN b loose part last slash c o,rfl,fun Q E=>(bjH fun QB=>by rw [cn1,h1]).trans rfl⟩
 | false=>
  have k1:∀ {Q E},axz (stN b loose part last slash c o) Q E=_:=fun {Q E}=>(bjI fun QB=>by rw [cn1,h1]).trans bZJ
  rw [if_neg (by decide)]
  by_cases h47:c=47
  ·rw [if_pos h47]
   have k2:∀ {Q E},axz (stN b loose part last slash c o) Q E=_:=fun {Q E}=>k1.trans ((bjH fun QB=>by rw [cn2,decide_eq_true h47]).trans bZK)
   cases h3:decide (akH part=azv) || (part.isEmpty && !loose) with
   | true=>exact ⟨stN b loose part last slash c o,rfl,fun Q E=>k2.trans ((bjH fun QB=>by rw [cn3 hp,h3]).trans rfl)⟩
   | false=>
    rw [if_neg (by decide)]
    intro Q E
    refine k2.trans ((bjI fun QB=>by rw [cn3 hp,h3]).trans ?_)
    subst h47
    wide_open with [bxy,isE]
    cases part.isEmpty<;>cases slash<;>wide_open with [List.reverse_cons,List.reverse_nil]<;>rfl
  ·rw [if_neg h47]
   have k2:∀ {Q E},axz (stN b loose part last slash c o) Q E=_:=fun {Q E}=>k1.trans (bjI fun QB=>by rw [cn2,decide_eq_false h47])
   cases h4:decide (c=46) && (part.isEmpty || decide (last=46)) with
   | true=>exact ⟨stN b loose part last slash c o,rfl,fun Q E=>k2.trans ((bjH fun QB=>by rw [cn4,h4]).trans rfl)⟩
   | false=>
    rw [if_neg (by decide)]
    have k3:∀ {Q E},axz (stN b loose part last slash c o) Q E=_:=fun {Q E}=>k2.trans (bjI fun QB=>by rw [cn4,h4])
    cases h5:decide (c=123) && decide (last=64) with
    | true=>exact ⟨stN b loose part last slash c o,rfl,fun Q E=>k3.trans ((bjH fun QB=>by rw [cn5,h5]).trans rfl)⟩
    | false=>
     rw [if_neg (by decide)]
     intro Q E
     have e:iL part++[iC c]=iL (part++[c]):=by simp
     refine k3.trans ((bjI fun QB=>by rw [cn5,h5]).trans ?_)
     wide_open with [e,hlen2]
theorem bqE {α : Type}{p P:Prop} [Decidable p] {x y:Option α}{r : α} (h1:x=some r→P) (h2:y=some r→P) (h:(if p then x else y)=some r):P:=by
 by_cases z:p
 ·rw [if_pos z] at h;exact h1 h
 ·rw [if_neg z] at h;exact h2 h
theorem aKc {loose slash:Bool}{part p':Bs}{last c l':UInt8}{s':Bool} (h:aXg loose part last slash c=some (p',l',s')):p'.length≤part.length + 1:=
 bqE (by nofun) (bqE (bqE (by nofun) (by intro h;cases h;exact Nat.zero_le _))
  (bqE (by nofun) (bqE (by nofun) (by intro h;cases h;rw [List.length_append];exact Nat.le_refl _)))) h
noncomputable def bv0 (b:Bs) (loose:Bool) (o:List MO) (F:(MF→MSt→Prop)→(Value→MSt→Prop)→Prop):Option (Bs×UInt8×Bool)→Prop
 | none=>∃ st',st'.objs=o∧∀ Q E,F Q E=Q (.ret (.bool false)) st'
 | some z=>∃ y,∀ Q E,F Q E=Q .next ⟨[.bytes b,.bool loose,.list (iL z.1),iC z.2.1,.bool z.2.2,y],o⟩
theorem aQP {b:Bs}{loose:Bool}{o:List MO}:∀ (r part:Bs) (last:UInt8) (slash:Bool) (x:MV),part.length + r.length≤1000→
  bv0 b loose o (aqu (iL r) (ajD 5) axz ⟨[.bytes b,.bool loose,.list (iL part),iC last,.bool slash,x],o⟩) (bJA loose part last slash r)
 | [],part,last,slash,x,h=>⟨x,fun Q E=>rfl⟩
 | c::r,part,last,slash,x,h=>by
  have hb:=bj9 (b:=b) (loose:=loose) (slash:=slash) (part:=part) (last:=last) (c:=c) (o:=o) (by rw [List.length_cons] at h;walk_at "O")
  have step:∀ Q E,aqu (iL (c::r)) (ajD 5) axz ⟨[.bytes b,.bool loose,.list (iL part),iC last,.bool slash,x],o⟩ Q E =
    axz ⟨[.bytes b,.bool loose,.list (iL part),iC last,.bool slash,iC c],o⟩ (fun f st2=>match f with | .next=>aqu (iL r) (ajD 5) axz st2 Q E | .cont=>aqu (iL r) (ajD 5) axz st2 Q E | .brk=>Q .next st2 | .ret v=>Q (.ret v) st2) E:=fun Q E=>by
   show aqu (iC c::iL r) (ajD 5) axz _ Q E=_
   rw [av9]
   wide_open with []
  show bv0 b loose o _ ((aXg loose part last slash c).bind fun x=>bJA loose x.1 x.2.1 x.2.2 r)
  cases hn:aXg loose part last slash c with
  | none=>
   rw [hn] at hb
   revert hb;refine azC fun st' h1 h2=>?_
   exact ⟨st',h1,fun Q E=>by rw [step,h2]⟩
  | some x'=>
   obtain ⟨p',l',s'⟩:=x'
   rw [hn] at hb
   have e:aqu (iL (c::r)) (ajD 5) axz ⟨[.bytes b,.bool loose,.list (iL part),iC last,.bool slash,x],o⟩=aqu (iL r) (ajD 5) axz ⟨[.bytes b,.bool loose,.list (iL p'),iC l',.bool s',iC c],o⟩:=by
    funext Q E;rw [step,hb]
   rw [e]
   exact aQP (b:=b) (loose:=loose) (o:=o) r p' l' s' (iC c) (by have:=aKc hn;rw [List.length_cons] at h;walk_at "O")
theorem bzY {loose:Bool}:∀ (r part:Bs) (last:UInt8) (slash:Bool) {p':Bs}{l':UInt8}{s':Bool},bJA loose part last slash r=some (p',l',s')→p'.length≤part.length + r.length:=by
 intro r
 induction r with
 | nil=>intro part last slash p' l' s' h;cases h;exact Nat.le_refl _
 | cons c r ih=>
  intro part last slash p' l' s' h
  refine ajl (Option.bind_eq_some_iff.mp (show (aXg loose part last slash c).bind _=_ from h)) fun q4_ h1 h2=>?_;obtain ⟨a,b,e⟩:=q4_
  have h3:=ih a b e h2
  have h4:=aKc h1
  rw [List.length_cons]
  walk_at "O"
theorem aXb {b:Bs}{loose:Bool}{l:List MV}{o:List MO}{Q:MV→MSt→Prop}{E:Value→MSt→Prop} (hb:b.length≤1000):aqx [.bytes b,.bool loose] ⟨l,o⟩ Q E=Q (.bool (run loose [] 0 false b)) ⟨l,o⟩:=by
 have hl:=aQP (b:=b) (loose:=loose) (o:=o) b [] 0 false .unb (by rw [List.length_nil];walk_at "O")
 unfold aqx fnM axL
 wide_open with [List.reverse_cons,List.reverse_nil]
 have e1:∀ Q E,aqu (List.map (fun c=>MV.int (c.toNat:Int)) b) (ajD 5) axz ⟨[.bytes b,.bool loose,.list [],.int 0,.bool false,.unb],o⟩ Q E=aqu (iL b) (ajD 5) axz ⟨[.bytes b,.bool loose,.list (iL []),iC 0,.bool false,.unb],o⟩ Q E:=fun _ _=>rfl
 rw [e1,bjR]
 cases hr:bJA loose [] 0 false b with
 | none=>
  rw [hr] at hl
  revert hl;refine azC fun st' h1 h2=>?_
  rw [h2]
  wide_open with [h1,bJC]
 | some y=>
  obtain ⟨p,la,s⟩:=y
  rw [hr] at hl
  obtain ⟨y,h2⟩:=hl
  rw [h2]
  have hpl:=bzY b [] 0 false hr
  have h9:(iL p).length≤10000:=by rw [List.length_map];simp at hpl;walk_at "O"
  wide_open with [bxy,bvz,bQk,aKD,h9,i46,isE,bJC]
  cases s
  ·rfl
  ·cases p.isEmpty
   ·cases decide (la=46)
    ·cases decide (akH p=azv)<;>rfl
    ·rfl
   ·rfl
end Mine
namespace Mine
open PySem PySem.W
noncomputable def badC:Bs:=[127,32,126,94,58,63,42,91]
noncomputable def okC (c:UInt8):Bool:=!decide (c.toNat < 32) && !badC.contains c
noncomputable def axF (p:Bs):Bool:=!decide (p=[]) && !aqL p [46] && !aZM p azv
noncomputable def axw (b:Bs):UInt8:=b.getLast?.getD 0
noncomputable def bj7 (b:Bs):Bool:=
 !decide (b=[64]) && bIn [47] b && !bIn [46,46] b && (List.range b.length).all (fun i=>okC (b.getD i 0)) && !([47,46]:Bs).contains (axw b) && !bIn [64,123] b && !bIn [92] b && (ajv 47 b).all axF
theorem bJf {b:Bs}{i:Nat} (h:i < b.length):axx b (some (i:Int)) (some ((i:Int) + 1))=[b.getD i 0]:=by
 unfold axx
 have h1:(some (i:Int)).elim 0 (clipAt b.length)=i:=by
  show clipAt b.length (i:Int)=_
  have:=clipAt_cast b.length (i:Int)
  rw [if_neg (by walk_at "O")] at this
  walk_at "O"
 have h2:(some ((i:Int) + 1)).elim b.length (clipAt b.length)=i + 1:=by
  show clipAt b.length ((i:Int) + 1)=_
  have:=clipAt_cast b.length ((i:Int) + 1)
  rw [if_neg (by walk_at "O")] at this
  walk_at "O"
 rw [h1,h2,show i + 1 - i=1 by walk_at "O",List.getD_eq_getElem?_getD,List.getElem?_eq_getElem h]
 rw [List.drop_eq_getElem_cons h]
 rfl
theorem bJr {b:Bs} (h:b≠[]):bAt b (-1)=some (axw b):=by
 have hl:0 < b.length:=List.length_pos_iff.mpr h
 unfold bAt seqIndex? axw
 have h1:(-1:Int) < 0:=by decide
 rw [if_pos h1]
 have h2:(decide ((0:Int)≤-1 + b.length) && decide ((-1:Int) + b.length < b.length))=true:=by
  rw [Bool.and_eq_true,decide_eq_true_eq,decide_eq_true_eq];walk_at "O"
 rw [if_pos h2]
 have h3:((-1:Int) + b.length).toNat=b.length - 1:=by walk_at "O"
 rw [h3]
 show b[b.length - 1]? = _
 rw [← List.getLast?_eq_getElem?]
 cases hb:b.getLast? with
 | none=>exact absurd (List.getLast?_eq_none_iff.mp hb) h
 | some c=>rfl
theorem bJ0 {b:Bs}{i:Nat} (h:i < b.length):b.getD i 0∈b:=by
 rw [List.getD_eq_getElem?_getD,List.getElem?_eq_getElem h];exact List.getElem_mem h
noncomputable abbrev bZ7:M MF:=(ifM (ifM (ajh (bnd (aj0 (aje (getL 0) (getL 1) (ajs (getL 1) (ret (MV.int 1)) akc)) (ret [])) bQz) (ret (MV.int 32)) mLt aj3) (ret true) (ifM (ajh (getL 2) (ret (MV.bytes [127,32,126,94,58,63,42,91])) mIn aj3) (ret true) (ret false))) (aju (ret (MV.bool false))) (ret MF.next))
noncomputable abbrev bKP:MV→M Unit:=(azm fun xs=>gE xs 2 (ajg (ajD 1) (ajg (ajD 2) aqj) xs))
theorem aKq {b:Bs}{o:List MO} (hb:b.length≤1000) (x3:MV):∀ (is:List Nat) (x1 x2:MV),(∀ i∈is,i < b.length)→
  ∃ y1 y2,∀ Q E,aqu (is.map fun i:Nat=>MV.tup [.int i,.int ((b.getD i 0).toNat:Int)]) bKP bZ7 ⟨[.bytes b,x1,x2,x3],o⟩ Q E=Q (if is.all (fun i=>okC (b.getD i 0)) then .next else .ret (.bool false)) ⟨[.bytes b,y1,y2,x3],o⟩
 | [],x1,x2,h=>⟨x1,x2,fun Q E=>rfl⟩
 | i::is,x1,x2,h=>by
  refine azD (aKq (o:=o) hb x3 is (.int i) (.int ((b.getD i 0).toNat:Int)) (fun j hj=>h j (.tail _ hj))) fun y1 y2 ih=>?_
  have hi:=h i (.head _)
  have e1:=bJf hi
  have hk:okC (b.getD i 0)=(!decide ((b.getD i 0).toNat < 32) && !([127,32,126,94,58,63,42,91]:Bs).contains (b.getD i 0)):=rfl
  have hlt:=bxI (b.getD i 0)
  generalize hc:b.getD i 0=c at e1 hk hlt
  refine ⟨if okC c then y1 else .int i,if okC c then y2 else .int (c.toNat:Int),fun Q E=>?_⟩
  rw [List.map_cons,av9,hc,List.all_cons,hc]
  wide_open with [e1,show b.length≤16777216 by walk_at "O",hlt]
  rw [hc] at ih
  rw [hk]
  cases h1:decide (c.toNat < 32)
  ·cases h2:([127,32,126,94,58,63,42,91]:Bs).contains c
   ·skip
    exact ih Q E
   ·simp
  ·simp
noncomputable abbrev bKC:M MF:=(ajc (ifM (aKU (bnd (getL 3) aj3)) (aju (ret (MV.bool false))) (ret MF.next))
 (ajc (ifM (bnd (ajk aqz (getL 3) (aj0 (ret (MV.bytes [46])) (ret [])) azt) aj3) (aju (ret (MV.bool false))) (ret MF.next))
 (ifM (bnd (ajk aqz (getL 3) (aj0 (ret (MV.bytes [46,108,111,99,107])) (ret [])) bku) aj3) (aju (ret (MV.bool false))) (ret MF.next))))
theorem aQO {b:MV}{o:List MO} (x1 x2:MV):∀ (ps:List Bs) (x3:MV),(∀ p∈ps,p.length≤1000)→
  ∃ y3,∀ Q E,aqu (ps.map MV.bytes) (ajD 3) bKC ⟨[b,x1,x2,x3],o⟩ Q E=Q (if ps.all axF then .next else .ret (.bool false)) ⟨[b,x1,x2,y3],o⟩
 | [],x3,h=>⟨x3,fun Q E=>rfl⟩
 | p::ps,x3,h=>by
  obtain ⟨y3,ih⟩:=aQO (b:=b) (o:=o) x1 x2 ps (.bytes p) (fun q hq=>h q (.tail _ hq))
  have hp:=h p (.head _)
  have hk:axF p=(!decide (p=[]) && !aqL p [46] && !aZM p [46,108,111,99,107]):=rfl
  refine ⟨if axF p then y3 else .bytes p,fun Q E=>?_⟩
  rw [List.map_cons,av9,List.all_cons,hk]
  by_cases h0:p=[]
  ·wide_open with [h0,decide_true]
   simp
  ·wide_open with [h0,show p.length≤1099511627776 by walk_at "O"]
   cases h1:aqL p [46]
   ·cases h2:aZM p [46,108,111,99,107]
    ·skip
     exact ih Q E
    ·simp
   ·simp
theorem bvq {b:Bs}{l:List MV}{o:List MO}{Q:MV→MSt→Prop}{E:Value→MSt→Prop} (hb:b.length≤1000):ajo [.bytes b] ⟨l,o⟩ Q E=Q (.bool (bj7 b)) ⟨l,o⟩:=by
 refine azD (aKq (b:=b) (o:=o) hb .unb (List.range b.length) .unb .unb (fun i hi=>List.mem_range.mp hi)) fun y1 y2 he=>?_
 obtain ⟨y3,hp⟩:=aQO (b:=.bytes b) (o:=o) y1 y2 (ajv 47 b) .unb (fun p hp=>by have:=(axV 47 b).2 p hp;walk_at "O")
 unfold ajo fnM aqK
 unfold bj7
 by_cases h1:b=[64]
 ·wide_open with [decide_eq_true h1]
  try simp
 ·cases h2:bIn [47] b
  ·wide_open with [decide_eq_false h1,h2]
   try simp
  ·cases h3:bIn [46,46] b
   ·have hne:b≠[]:=by rintro rfl;cases h2
    have he':∀ Q E,aqu (aXE b) bKP bZ7 ⟨[.bytes b,.unb,.unb,.unb],o⟩ Q E=Q (if (List.range b.length).all (fun i=>okC (b.getD i 0)) then .next else .ret (.bool false)) ⟨[.bytes b,y1,y2,.unb],o⟩:=he
    wide_open with [decide_eq_false h1,h2,h3]
    rw [he']
    cases h4:(List.range b.length).all fun i=>okC (b.getD i 0)
    ·wide_open with [Bool.false_eq_true,if_false]
     try simp
    ·wide_open with [if_true,bJr hne,exists_eq_left']
     have e2:b.length≤1099511627776:=by walk_at "O"
     have e3:b.length≤10000:=by walk_at "O"
     wide_open with [e2,e3,hp]
     cases ([47,46]:Bs).contains (axw b)
     ·wide_open with [Bool.true_and,Bool.false_and,Bool.and_true,Bool.and_false,if_true,Bool.false_eq_true,if_false]
      cases bIn [64,123] b
      ·wide_open with [Bool.true_and,Bool.false_and,Bool.and_true,Bool.and_false,if_true,Bool.false_eq_true,if_false]
       cases bIn [92] b
       ·wide_open with [Bool.true_and,Bool.false_and,Bool.and_true,Bool.and_false,if_true,Bool.false_eq_true,if_false]
        cases (ajv 47 b).all axF<;>wide_open with [Bool.true_and,Bool.false_and,Bool.and_true,Bool.and_false,if_true,Bool.false_eq_true,if_false]
       ·wide_open with [Bool.true_and,Bool.false_and,Bool.and_true,Bool.and_false,if_true,Bool.false_eq_true,if_false]
      ·wide_open with [Bool.true_and,Bool.false_and,Bool.and_true,Bool.and_false,if_true,Bool.false_eq_true,if_false]
     ·wide_open with [Bool.true_and,Bool.false_and,Bool.and_true,Bool.and_false,if_true,Bool.false_eq_true,if_false]
   ·wide_open with [decide_eq_false h1,h2,h3]
    try simp
end Mine
namespace Mine
noncomputable abbrev sp (b:Bs):List Bs:=ajv 47 b
theorem aqF (b:Bs):∃ h t,sp b=h::t:=by
 cases hb:sp b with
 | nil=>exact absurd hb (avh 47 b)
 | cons h t=>exact ⟨h,t,rfl⟩
theorem bjE (r:Bs):sp (47::r)=[]::sp r:=by show ajv 47 (47::r)=_;rw [ajv,if_pos rfl]
theorem spc {c:UInt8} (h:c≠47) (r:Bs):sp (c::r)=(c::(sp r).headD [])::(sp r).tail:=by show ajv 47 (c::r)=_;rw [ajv,if_neg h]
noncomputable def okP (loose:Bool) (p:Bs):Bool:=if p.isEmpty then loose else akf p
noncomputable def fin (loose slash:Bool) (L:List Bs):Bool:=L.all (okP loose) && !(L.getLastD []).isEmpty && !decide ((L.getLastD []).getLast? = some 46) && (slash || L.dropLast.any (fun p=>!p.isEmpty))
theorem bjY {p q:Bs} (h:aQU p=false):akf (p++q)=false:=by
 dsimp only [akf]
 cases hf:aQU (p++q) with
 | false=>simp
 | true=>rw [aXC hf] at h;cases h
theorem bz0 {loose slash:Bool}{p:Bs}{t:List Bs} (h:okP loose p=false):fin loose slash (p::t)=false:=by
 unfold fin;rw [List.all_cons,h,Bool.false_and,Bool.false_and,Bool.false_and,Bool.false_and]
theorem bqb {loose:Bool}{p:Bs} (hp:p.isEmpty=false):okP loose p=akf p:=by unfold okP;rw [hp];rfl
theorem bql (p:Bs) (c:UInt8) (q:Bs):((p++[c])++q).isEmpty=false:=by cases p<;>rfl
theorem bJb (x y:UInt8):decide (some x=some y)=decide (x=y):=decide_eq_decide.mpr (by rw [Option.some.injEq])
theorem bqW {part:Bs}{c last:UInt8} (h1:aQU part=true) (h3:part≠[]→part.getLast? = some last) (h4:part=[]→last≠46∧last≠64) :
  aQU (part++[c])=(!(decide (c=46) && (part.isEmpty || decide (last=46))) && !(decide (c=123) && decide (last=64))):=by
 rw [bqX,h1,Bool.true_and]
 cases part with
 | nil=>rw [decide_eq_false (h4 rfl).1,decide_eq_false (h4 rfl).2];rfl
 | cons a r=>rw [h3 (List.cons_ne_nil a r),bJb,bJb]
theorem bJ2 {loose slash:Bool}{last:UInt8}{part:Bs} (h1:aQU part=true) (h2:part.all aqZ=true) (h3:part≠[]→part.getLast? = some last) :
  (slash && !part.isEmpty && !decide (last=46) && !decide (akH part=azv))=fin loose slash [part]:=by
 have e:fin loose slash [part]=((okP loose part && true) && !part.isEmpty && !decide (part.getLast? = some 46) && (slash || false)):=rfl
 rw [e]
 cases part with
 | nil=>cases slash<;>cases loose<;>rfl
 | cons a r=>
  rw [h3 (List.cons_ne_nil a r),bJb,bqb rfl,akf,h1,h2]
  cases slash<;>cases decide (last=46)<;>cases decide (akH (a::r)=azv)<;>rfl
theorem bkP {loose slash:Bool}{part hh:Bs}{tt:List Bs}:fin loose slash (part::hh::tt)=(okP loose part && fin loose (slash || !part.isEmpty) (hh::tt)):=by
 have e:fin loose slash (part::hh::tt)=((okP loose part && (hh::tt).all (okP loose)) && !((hh::tt).getLastD []).isEmpty && !decide (((hh::tt).getLastD []).getLast? = some 46) && (slash || (!part.isEmpty || (hh::tt).dropLast.any (fun p=>!p.isEmpty)))):=rfl
 rw [e]
 unfold fin
 rw [Bool.and_assoc,Bool.and_assoc,Bool.and_assoc,Bool.and_assoc,Bool.and_assoc,Bool.or_assoc]
theorem bqY {loose slash:Bool}{last:UInt8}{part r:Bs} (h1:aQU part=true) (h2:part.all aqZ=true)
  (ih:run loose [] 47 (slash || !part.isEmpty) r=fin loose (slash || !part.isEmpty) (sp r)):run loose part last slash (47::r)=fin loose slash (part::sp r):=by
 refine azD (aqF r) fun hh tt hs=>?_
 have e:run loose part last slash (47::r)=(if decide (akH part=azv) || (part.isEmpty && !loose) then false else run loose [] 47 (slash || !part.isEmpty) r):=rfl
 rw [e,ih,hs,bkP]
 generalize fin loose (slash || !part.isEmpty) (hh::tt)=z
 unfold okP akf
 rw [h1,h2]
 cases part with
 | nil=>cases loose<;>rfl
 | cons a r'=>cases decide (akH (a::r')=azv)<;>rfl
theorem bkO {loose slash:Bool}{c last:UInt8}{part r h:Bs}{t:List Bs} (hc:c≠47) (h1:aQU part=true) (h3:part≠[]→part.getLast? = some last) (h4:part=[]→last≠46∧last≠64)
  (ih:aqZ c=true→aQU (part++[c])=true→run loose (part++[c]) c slash r=fin loose slash (((part++[c])++h)::t)):run loose part last slash (c::r)=fin loose slash (((part++[c])++h)::t):=by
 have e:run loose part last slash (c::r)=(if (!aqZ c)=true then false else if c=47 then (if decide (akH part=azv) || (part.isEmpty && !loose) then false else run loose [] 47 (slash || !part.isEmpty) r)
  else if (decide (c=46) && (part.isEmpty || decide (last=46)))=true then false else if (decide (c=123) && decide (last=64))=true then false else run loose (part++[c]) c slash r):=rfl
 have bad:aQU (part++[c])=false→false=fin loose slash (((part++[c])++h)::t):=fun hf=>(bz0 ((bqb (bql part c h)).trans (bjY hf))).symm
 have hs:=bqW (c:=c) h1 h3 h4
 rw [e]
 cases hk:aqZ c with
 | false=>
  refine (if_pos rfl).trans (bz0 ((bqb (bql part c h)).trans ?_)).symm
  rw [akf,List.all_append,List.all_append,List.all_cons,hk,Bool.false_and,Bool.and_false,Bool.false_and,Bool.false_and,Bool.false_and]
 | true=>
  refine (if_neg Bool.false_ne_true).trans ((if_neg hc).trans ?_)
  cases hA:decide (c=46) && (part.isEmpty || decide (last=46)) with
  | true=>rw [hA] at hs;exact (if_pos rfl).trans (bad hs)
  | false=>
   refine (if_neg Bool.false_ne_true).trans ?_
   cases hB:decide (c=123) && decide (last=64) with
   | true=>rw [hA,hB] at hs;exact (if_pos rfl).trans (bad hs)
   | false=>rw [hA,hB] at hs;exact (if_neg Bool.false_ne_true).trans (ih hk hs)
theorem aX6 (loose:Bool):∀ (r part:Bs) (last:UInt8) (slash:Bool),aQU part=true→part.all aqZ=true→(part≠[]→part.getLast? = some last)→(part=[]→last≠46∧last≠64)→
  run loose part last slash r=fin loose slash ((part++(sp r).headD [])::(sp r).tail)
 | [],part,last,slash,h1,h2,h3,h4=>(bJ2 h1 h2 h3).trans (congrArg (fun p=>fin loose slash [p]) (List.append_nil part).symm)
 | c::r,part,last,slash,h1,h2,h3,h4=>by
  by_cases hc:c=47
  ·subst hc
   rw [bjE]
   have ih:=aX6 loose r [] 47 (slash || !part.isEmpty) rfl rfl (fun z=>absurd rfl z) (fun _=>by decide)
   refine (bqY h1 h2 (ih.trans ?_)).trans (congrArg (fun p=>fin loose slash (p::sp r)) (List.append_nil part).symm)
   refine azD (aqF r) fun hh tt hs=>?_
   rw [hs];rfl
  ·rw [spc hc]
   refine (bkO hc h1 h3 h4 fun hk hf=>aX6 loose r (part++[c]) c slash hf ?_ (fun _=>List.getLast?_concat) fun z=>absurd z (by simp)).trans (congrArg (fun p=>fin loose slash (p::(sp r).tail)) (List.append_assoc part [c] _))
   rw [List.all_append,h2,List.all_cons,hk];rfl
theorem bxn (loose:Bool) (b:Bs):run loose [] 0 false b=fin loose false (sp b):=by
 have:=aX6 loose b [] 0 false (by decide) rfl (fun z=>absurd rfl z) (fun _=>by decide)
 refine azD (aqF b) fun hh tt hs=>?_
 rw [this,List.nil_append,hs];rfl
theorem bjx:∀ L:List Bs,fin false false L=CC L
 | []=>rfl
 | [p]=>by
  unfold fin CC
  simp
 | p::q::L=>by
  unfold fin CC
  have e0:(p::q::L).all (okP false)=(p::q::L).all fun p=>!p.isEmpty && akf p:=by
   congr 1
   funext p
   unfold okP
   cases p.isEmpty<;>simp
  rw [e0]
  cases h:(p::q::L).all fun p=>!p.isEmpty && akf p with
  | false=>rfl
  | true=>
   have hall:=List.all_eq_true.mp h
   have hl:((p::q::L).getLastD []).isEmpty=false:=by
    have hm:(p::q::L).getLastD []∈p::q::L:=by
     rw [List.getLastD_eq_getLast?,List.getLast?_eq_some_getLast (by simp)]
     exact List.getLast_mem (by simp)
    have:=hall _ hm
    rw [Bool.and_eq_true] at this
    simpa using this.1
   have hp:p.isEmpty=false:=by
    have:=hall p (.head _)
    rw [Bool.and_eq_true] at this
    simpa using this.1
   have hd:((p::q::L).dropLast.any fun p=>!p.isEmpty)=true:=by
    rw [List.dropLast_cons_of_ne_nil (by simp),List.any_cons,hp];rfl
   rw [hl,hd]
   have h2:decide (2≤(p::q::L).length)=true:=by simp
   rw [h2];simp
theorem bki (b:Bs):run false [] 0 false b=CC (sp b):=by rw [bxn,bjx]
end Mine
namespace Mine
theorem bjD {x y:UInt8} (hx:x≠47) (hy:y≠47):∀ b:Bs,adj x y b=(sp b).any (adj x y)
 | []=>rfl
 | c::r=>by
  have ih:=bjD hx hy r
  refine azD (aqF r) fun h t hs=>?_
  rw [azg,ih]
  have hd:∀ z,z≠47→decide (r.head? = some z)=decide (h.head? = some z):=fun z hz=>by
   cases r with
   | nil=>have:=hs;cases this;rfl
   | cons a r'=>
    by_cases ha:a=47
    ·subst ha
     rw [bjE] at hs
     cases hs
     simp [hz.symm]
    ·rw [spc ha] at hs
     cases hs;rfl
  by_cases hc:c=47
  ·subst hc
   rw [bjE,hs,List.any_cons,decide_eq_false (fun z=>hx z.symm)];rfl
  ·rw [spc hc,hs]
   show _=(adj x y (c::h) || t.any (adj x y))
   rw [azg,hd y hy,List.any_cons,Bool.or_assoc]
theorem bxj (f:UInt8→Bool) (h47:f 47=true):∀ b:Bs,b.all f=(sp b).all (fun p=>p.all f)
 | []=>rfl
 | c::r=>by
  have ih:=bxj f h47 r
  refine azD (aqF r) fun h t hs=>?_
  rw [List.all_cons,ih]
  by_cases hc:c=47
  ·subst hc;rw [bjE,h47,hs];simp
  ·rw [spc hc,hs];simp [Bool.and_assoc]
theorem bjA:∀ b:Bs,decide (2≤(sp b).length)=b.contains 47
 | []=>rfl
 | c::r=>by
  have ih:=bjA r
  refine azD (aqF r) fun h t hs=>?_
  rw [List.contains_cons,← ih]
  by_cases hc:c=47
  ·subst hc;rw [bjE,hs];simp
  ·rw [spc hc,hs]
   have:((47:UInt8) == c)=false:=beq_eq_false_iff_ne.mpr fun z=>hc z.symm
   rw [this];simp
theorem bjz:∀ (b:Bs) (p:Bs),p∈sp b→(47:UInt8)∉p
 | [],p,h=>by have:p=[]:=List.mem_singleton.mp h;subst this;exact List.not_mem_nil
 | c::r,p,h=>by
  refine azD (aqF r) fun hh t hs=>?_
  have ih:=bjz r
  rw [hs] at ih
  by_cases hc:c=47
  ·subst hc
   rw [bjE,hs] at h
   rcases List.mem_cons.mp h with rfl | h
   ·exact List.not_mem_nil
   ·exact ih p h
  ·rw [spc hc,hs] at h
   rcases List.mem_cons.mp h with rfl | h
   ·intro z
    rcases List.mem_cons.mp z with z | z
    ·exact hc z.symm
    ·exact ih hh (.head _) z
   ·exact ih p (.tail _ h)
theorem aX1:∀ b:Bs,((sp b).getLastD []).getLast? = if b.getLast? = some 47 then none else b.getLast?
 | []=>rfl
 | [c]=>by
  by_cases hc:c=47
  ·subst hc;rfl
  ·rw [spc hc]
   show ([c]:Bs).getLast? = _
   simp [hc]
 | c::d::r=>by
  have ih:=aX1 (d::r)
  refine azD (aqF (d::r)) fun h t hs=>?_
  have e1:(c::d::r).getLast? = (d::r).getLast?:=List.getLast?_cons_cons
  rw [e1,← ih]
  by_cases hc:c=47
  ·subst hc
   rw [bjE,hs]
   simp [List.getLastD]
  ·rw [spc hc,hs]
   cases t with
   | nil=>
    show (c::h).getLast? = h.getLast?
    have:h≠[]:=by
     rintro rfl
     have hl:=bjA (d::r)
     by_cases hd:d=47
     ·subst hd;rw [bjE] at hs;refine azD (aqF r) fun a b e=>?_;rw [e] at hs;cases hs
     ·rw [spc hd] at hs;cases hs
    cases h with
    | nil=>exact absurd rfl this
    | cons a h'=>exact List.getLast?_cons_cons
   | cons a t'=>simp [List.getLastD]
theorem aZl (c:UInt8):aqZ c=(okC c && !(c == 92)):=by
 have h:∀ n:Fin 256,aqZ n.1.toUInt8=(okC n.1.toUInt8 && !(n.1.toUInt8 == 92)):=by decide +kernel
 have e:c.toNat.toUInt8=c:=by simp
 have:=h ⟨c.toNat,c.toNat_lt⟩
 rw [e] at this
 exact this
theorem bjT (f:UInt8→Bool) (b:Bs):(List.range b.length).all (fun i=>f (b.getD i 0))=b.all f:=by
 rw [Bool.eq_iff_iff,List.all_eq_true,List.all_eq_true]
 constructor
 ·intro h x hx
  obtain ⟨i,hi,e5_⟩:=List.getElem_of_mem hx;subst e5_
  have:=h i (List.mem_range.mpr hi)
  rw [List.getD_eq_getElem?_getD,List.getElem?_eq_getElem hi] at this
  exact this
 ·intro h i hi
  have hi':=List.mem_range.mp hi
  exact h _ (bJ0 hi')
theorem aKz (p:Bs):aZM p azv=decide (akH p=azv):=by
 unfold aZM akH
 rw [azN]
 have:azv.length=5:=rfl
 rw [this]
 by_cases h:5≤p.length
 ·rw [decide_eq_true h,Bool.true_and]
 ·rw [decide_eq_false h,Bool.false_and]
  symm
  refine decide_eq_false fun z=>?_
  have:=congrArg List.length z
  rw [List.length_drop] at this
  have h5:azv.length=5:=rfl
  walk_at "O"
theorem aQv (p:Bs):aqL p [46]=decide (p.head? = some 46):=by
 rw [azi]
 cases p with
 | nil=>rfl
 | cons a r=>simp
theorem aKF (b:Bs) (n:UInt8):(!b.contains n)=b.all fun c=>!(c == n):=by
 rw [Bool.eq_iff_iff]
 simp [List.all_eq_true]
 exact ⟨fun h x hx z=>h (z ▸ hx),fun h hn=>h n hn rfl⟩
theorem bzd (b:Bs):bj7 b=CC (sp b):=by
 have h47:bIn [47] b=decide (2≤(sp b).length):=by rw [aXP,bjA]
 have hok:(b.all okC && !bIn [92] b)=(sp b).all (fun p=>p.all aqZ):=by
  rw [aXP,aKF,← bxj aqZ (by decide)]
  rw [Bool.eq_iff_iff,Bool.and_eq_true,List.all_eq_true,List.all_eq_true,List.all_eq_true]
  constructor
  ·rintro ⟨h1,h2⟩ x hx;rw [aZl,h1 x hx,h2 x hx];rfl
  ·intro h
   refine ⟨fun x hx=>?_,fun x hx=>?_⟩
   ·have:=h x hx;rw [aZl,Bool.and_eq_true] at this;exact this.1
   ·have:=h x hx;rw [aZl,Bool.and_eq_true] at this;exact this.2
 have hl:=aX1 b
 unfold bj7 CC
 rw [bjT,aZL,aZL,bjD (by decide) (by decide),bjD (by decide) (by decide),h47]
 by_cases h2:2≤(sp b).length
 ·rw [decide_eq_true h2]
  have hb:¬ b=[64]:=by
   rintro rfl
   exact absurd h2 (by decide)
  rw [decide_eq_false hb]
  by_cases hc:(sp b).all axF=true
  ·have hc':=List.all_eq_true.mp hc
   have hne:(sp b).getLastD []≠[]:=by
    refine azD (aqF b) fun h t hs=>?_
    have hm:(sp b).getLastD []∈sp b:=by
     rw [hs,List.getLastD_eq_getLast?,List.getLast?_eq_some_getLast (by simp)]
     exact List.getLast_mem (by simp)
    have:=hc' _ hm
    unfold axF at this
    simp only [Bool.and_eq_true,Bool.not_eq_true',decide_eq_false_iff_not] at this
    exact this.1.1
   have hlast:b.getLast? = some (axw b)∧axw b≠47∧((sp b).getLastD []).getLast? = some (axw b):=by
    cases hg:((sp b).getLastD []).getLast? with
    | none=>exact absurd (List.getLast?_eq_none_iff.mp hg) hne
    | some z=>
     rw [hg] at hl
     split at hl
     ·cases hl
     ·rename_i hn
      unfold axw
      rw [← hl]
      rw [← hl] at hn
      exact ⟨rfl,fun e=>hn (by rw [show z=47 from e]),rfl⟩
   rw [hlast.2.2]
   have e1:([47,46]:Bs).contains (axw b)=decide (axw b=46):=by
    have:(axw b == 47)=false:=beq_eq_false_iff_ne.mpr hlast.2.1
    by_cases h:axw b=46
    ·simp [h]
    ·simp [h,hlast.2.1]
   rw [e1,hc]
   have e2:(sp b).all (fun p=>!p.isEmpty && akf p)=((sp b).all (fun p=>p.all aqZ) && !(sp b).any (adj 46 46) && !(sp b).any (adj 64 123)):=by
    rw [Bool.eq_iff_iff,Bool.and_eq_true,Bool.and_eq_true,List.all_eq_true,List.all_eq_true,Bool.not_eq_true',Bool.not_eq_true',List.any_eq_false,List.any_eq_false]
    constructor
    ·intro h
     refine ⟨⟨fun p hp=>?_,fun p hp=>?_⟩,fun p hp=>?_⟩<;>(have:=h p hp;unfold akf aQU at this;simp only [Bool.and_eq_true,Bool.not_eq_true'] at this)
     ·exact this.2.1.1
     ·simp [this.2.1.2.1.2]
     ·simp [this.2.1.2.2]
    ·rintro ⟨⟨h1,h2⟩,h3⟩ p hp
     have h4:=hc' p hp
     unfold axF at h4
     rw [aKz,aQv] at h4
     simp only [Bool.and_eq_true,Bool.not_eq_true',decide_eq_false_iff_not] at h4
     unfold akf aQU
     simp only [Bool.and_eq_true,Bool.not_eq_true',decide_eq_false_iff_not]
     have h5:=h2 p hp
     have h6:=h3 p hp
     refine ⟨by cases p with | nil=>exact absurd rfl h4.1.1 | cons a r=>rfl,⟨h1 p hp,⟨h4.1.2,by simpa using h5⟩,by simpa using h6⟩,h4.2⟩
   rw [e2,← hok]
   have e3:decide (some (axw b)=some 46)=decide (axw b=46):=by
    by_cases h:axw b=46<;>simp [h]
   rw [e3]
   cases List.all b okC<;>cases bIn [92] b<;>cases (sp b).any (adj 46 46)<;>cases (sp b).any (adj 64 123)<;>cases decide (axw b=46)<;>rfl
  ·have hc2:(sp b).all axF=false:=by simpa using hc
   rw [hc2,Bool.and_false]
   symm
   have:(sp b).all (fun p=>!p.isEmpty && akf p)=false:=by
    cases h:(sp b).all (fun p=>!p.isEmpty && akf p) with
    | false=>rfl
    | true=>
     exfalso
     apply hc
     rw [List.all_eq_true] at h ⊢
     intro p hp
     have h4:=h p hp
     unfold akf aQU at h4
     simp only [Bool.and_eq_true,Bool.not_eq_true',decide_eq_false_iff_not] at h4
     unfold axF
     rw [aKz,aQv]
     simp only [Bool.and_eq_true,Bool.not_eq_true',decide_eq_false_iff_not]
     refine ⟨⟨?_,h4.2.1.2.1.1⟩,h4.2.2⟩
     rintro rfl
     simp at h4
   rw [this];simp
 ·rw [decide_eq_false h2];simp
end Mine
namespace Mine
noncomputable abbrev ne? (p:Bs):Bool:=decide (p≠[])
theorem bj2 (p:Bs):(!p.isEmpty)=ne? p:=by cases p<;>simp [ne?]
theorem bqZ {L:List Bs} (h:L.getLastD []≠[]):fin true false L=CC (L.filter ne?):=by
 have hL:L≠[]:=by rintro rfl;exact h rfl
 have e:=List.dropLast_concat_getLast hL
 have e2:L.getLastD []=L.getLast hL:=by rw [List.getLastD_eq_getLast?,List.getLast?_eq_some_getLast hL];rfl
 rw [e2] at h
 generalize L.getLast hL=z at *
 generalize hI:L.dropLast=I at *
 subst e
 unfold fin CC
 have e3:(I++[z]).filter ne? = I.filter ne?++[z]:=by rw [List.filter_append];simp [ne?,h]
 have e4:(I.filter ne?++[z]).getLastD []=z:=by simp
 rw [e2,e3,e4,List.dropLast_concat]
 have hz:z.isEmpty=false:=by cases z with | nil=>exact absurd rfl h | cons a r=>rfl
 rw [hz]
 have e5:(I++[z]).all (okP true)=(I.filter ne?++[z]).all fun p=>!p.isEmpty && akf p:=by
  rw [List.all_append,List.all_append]
  congr 1
  ·rw [List.all_filter]
   congr 1
   funext p
   unfold okP
   cases p with
   | nil=>rfl
   | cons a r=>simp [ne?]
  ·simp [okP,hz]
 have e6:I.any (fun p=>!p.isEmpty)=decide (2≤(I.filter ne?++[z]).length):=by
  rw [List.length_append,List.length_singleton]
  have:I.any (fun p=>!p.isEmpty)=I.any ne?:=by congr 1;funext p;exact bj2 p
  rw [this]
  cases hf:I.filter ne? with
  | nil=>
   rw [List.filter_eq_nil_iff] at hf
   have:I.any ne? = false:=by rw [List.any_eq_false];exact hf
   rw [this];rfl
  | cons a r=>
   have ha:a∈I.filter ne?:=by rw [hf];exact .head _
   have:=List.mem_filter.mp ha
   rw [List.any_eq_true.mpr ⟨a,this⟩]
   simp
 rw [e5,e6]
 generalize (I.filter ne?++[z]).all (fun p=>!p.isEmpty && akf p)=a1
 generalize decide (2≤(I.filter ne?++[z]).length)=a2
 generalize decide (z.getLast? = some 46)=a3
 cases a1<;>cases a2<;>cases a3<;>rfl
theorem bjC:∀ (p q:Bs),(47:UInt8)∉p→sp (p++q)=(p++(sp q).headD [])::(sp q).tail
 | [],q,h=>by refine azD (aqF q) fun a b e=>?_;rw [List.nil_append,e];rfl
 | c::p,q,h=>by
  have ih:=bjC p q (fun z=>h (.tail _ z))
  have hc:c≠47:=fun z=>h (z ▸ .head _)
  rw [List.cons_append,spc hc,ih];rfl
theorem bjB:∀ (ps:List Bs) (p:Bs),(∀ x∈p::ps,(47:UInt8)∉x)→sp (p++avM [47] ps)=p::ps
 | [],p,h=>by
  rw [bjC p _ (h p (.head _))]
  show (p++[])::[]=_
  rw [List.append_nil]
 | q::qs,p,h=>by
  rw [bjC p _ (h p (.head _))]
  have e:avM [47] (q::qs)=47::(q++avM [47] qs):=rfl
  rw [e,bjE,bjB qs q (fun x hx=>h x (.tail _ hx))]
  show (p++[])::_=_
  rw [List.append_nil];rfl
theorem bkX (L:List Bs) (h:∀ x∈L,(47:UInt8)∉x):bj7 (akJ [47] L)=CC L:=by
 rw [bzd]
 cases L with
 | nil=>rfl
 | cons p ps=>rw [show akJ [47] (p::ps)=p++avM [47] ps from rfl,bjB ps p h]
theorem aQT {r:Bs} (h:(sp r).headD []=[]):r=[]∨r.head? = some 47:=by
 cases r with
 | nil=>exact .inl rfl
 | cons c r'=>
  by_cases hc:c=47
  ·subst hc;exact .inr rfl
  ·rw [spc hc] at h;cases h
theorem aZP:∀ r:Bs,[]∈(sp r).tail→(sp r).getLastD []≠[]→adj 47 47 r=true
 | [],h,_=>by cases h
 | c::r,h,hl=>by
  refine azD (aqF r) fun hh t hs=>?_
  by_cases hc:c=47
  ·subst hc
   rw [bjE] at h hl
   have h':[]∈sp r:=h
   have hl':(sp r).getLastD []≠[]:=by rw [hs] at hl ⊢; simpa [List.getLastD] using hl
   rw [azg]
   rw [hs] at h'
   rcases List.mem_cons.mp h' with h' | h'
   ·have:(sp r).headD []=[]:=by rw [hs];exact h'.symm
    rcases aQT this with rfl | h2
    ·exact absurd rfl hl'
    ·rw [h2];simp
   ·have:[]∈(sp r).tail:=by rw [hs];exact h'
    rw [aZP r this hl',Bool.or_true]
  ·rw [spc hc] at h hl
   have h':[]∈(sp r).tail:=h
   have hl':(sp r).getLastD []≠[]:=by
    rw [hs] at h' hl ⊢
    cases t with
    | nil=>cases h'
    | cons a t'=>simpa [List.getLastD] using hl
   rw [azg,aZP r h' hl',Bool.or_true]
theorem bzt {r:Bs} (h:[]∈sp r) (hl:(sp r).getLastD []≠[]):adj 47 47 (47::r)=true:=by
 refine azD (aqF r) fun hh t hs=>?_
 rw [azg]
 have h':=h
 rw [hs] at h'
 rcases List.mem_cons.mp h' with h' | h'
 ·have:(sp r).headD []=[]:=by rw [hs];exact h'.symm
  rcases aQT this with rfl | h2
  ·exact absurd rfl hl
  ·rw [h2];simp
 ·have:[]∈(sp r).tail:=by rw [hs];exact h'
  rw [aZP r this hl,Bool.or_true]
theorem bkA {r:Bs} (hne:r≠[]) (hr:r.getLast?≠some 47) :
  run true [] 0 false r=(bj7 r || (bIn [47,47] ([114,101,102,115,47]++r) && bj7 (akJ [47] ((sp r).filter ne?)))):=by
 have hl:(sp r).getLastD []≠[]:=by
  intro z
  have:=aX1 r
  rw [z,if_neg hr] at this
  exact hne (List.getLast?_eq_none_iff.mp this.symm)
 have hno:∀ x∈(sp r).filter ne?,(47:UInt8)∉x:=fun x hx=>bjz r x (List.mem_filter.mp hx).1
 rw [bxn,bqZ hl,bzd,bkX _ hno]
 by_cases h:[]∈sp r
 ·have e1:bIn [47,47] ([114,101,102,115,47]++r)=true:=by
   rw [aZL]
   show adj 47 47 ([114,101,102,115]++(47::r))=true
   rw [azj,bzt h hl,Bool.or_true]
  have e2:CC (sp r)=false:=by
   unfold CC
   have:(sp r).all (fun p=>!p.isEmpty && akf p)=false:=by
    rw [List.all_eq_false]
    exact ⟨[],h,by simp⟩
   rw [this];rfl
  rw [e1,e2];simp
 ·have e1:(sp r).filter ne? = sp r:=by
   rw [List.filter_eq_self]
   intro p hp
   exact decide_eq_true fun z=>h (z ▸ hp)
  rw [e1]
  cases CC (sp r)<;>cases bIn [47,47] ([114,101,102,115,47]++r)<;>rfl
end Mine
namespace Mine
open PySem PySem.W
noncomputable def bqS:Bs:=[72,69,65,68]
noncomputable def aK0:Bs:=[114,101,102,115,47,115,116,97,115,104]
noncomputable def aK5:Bs:=[114,101,102,115,47]
noncomputable def ajN (b:Bs):Bool:=decide (b=bqS) || decide (b=aK0) || (decide (b.take 5=aK5) && run true [] 0 false (b.drop 5))
section
variable {l:List MV}{o:List MO}{Q:MV→MSt→Prop}{E:Value→MSt→Prop}
theorem bq4 {b:Bs} (hb:b.length≤1000):aq5 [.bytes b] ⟨l,o⟩ Q E=Q (.bool (ajN b)) ⟨l,o⟩:=by
 have e2:(b.drop 5).length≤1000:=by rw [List.length_drop];walk_at "O"
 unfold aq5 fnM axK ajN
 have k1:∀ b:Bs,decide (b=[72,69,65,68])=decide (b=bqS):=fun _=>rfl
 have k2:∀ b:Bs,decide (b=[114,101,102,115,47,115,116,97,115,104])=decide (b=aK0):=fun _=>rfl
 have k3:∀ b:Bs,decide (b=[114,101,102,115,47])=decide (b=aK5):=fun _=>rfl
 wide_open with [k1,k2,show b.length≤16777216 by walk_at "O",avI,aKE,k3,aXb e2]
 cases decide (b=bqS)<;>cases decide (b=aK0)<;>cases decide (b.take 5=aK5)<;>wide_open with [Bool.true_or,Bool.or_true,Bool.false_or,Bool.or_false,Bool.true_and,Bool.false_and,aXb e2]
theorem aZs {a b:List Bs} (h:a.map MV.bytes=b.map MV.bytes):a=b:=by
 induction a generalizing b with
 | nil=>cases b with | nil=>rfl | cons x y=>cases h
 | cons x xs ih=>
  cases b with
  | nil=>cases h
  | cons y ys=>
   rw [List.map_cons,List.map_cons] at h
   have h1:=(List.cons.inj h).1
   have h2:=ih (List.cons.inj h).2
   cases h1
   rw [h2]
theorem bjw:∀ L:List Bs,(∀ p∈L,p.length≤1000)→(L.map List.length).sum≤1000 * L.length
 | [],_=>Nat.le_refl _
 | p::L,h=>by
  have:=bjw L fun q hq=>h q (.tail _ hq)
  have:=h p (.head _)
  rw [List.map_cons,List.sum_cons,List.length_cons]
  walk_at "O"
theorem bxi:∀ b:Bs,((sp b).map List.length).sum + (sp b).length=b.length + 1
 | []=>rfl
 | c::r=>by
  have ih:=bxi r
  refine azD (aqF r) fun h t hs=>?_
  rw [hs] at ih
  simp only [List.map_cons,List.sum_cons,List.length_cons] at ih
  by_cases hc:c=47
  ·subst hc;rw [bjE,hs];simp only [List.map_cons,List.sum_cons,List.length_cons,List.length_nil];walk_at "O"
  ·rw [spc hc,hs]
   show (((c::h)::t).map List.length).sum + ((c::h)::t).length=_
   simp only [List.map_cons,List.sum_cons,List.length_cons];walk_at "O"
theorem aJS:∀ L:List Bs,aqf [47] (L.filter ne?)≤aqf [47] L
 | []=>Nat.le_refl _
 | p::L=>by
  have ih:=aJS L
  unfold aqf at ih ⊢
  rw [List.filter_cons]
  split
  ·simp only [List.map_cons,List.sum_cons,List.length_cons,List.length_nil] at ih ⊢; walk_at "O"
  ·simp only [List.map_cons,List.sum_cons,List.length_cons,List.length_nil] at ih ⊢; walk_at "O"
theorem bkD (b:Bs):(akJ [47] ((sp b).filter ne?)).length≤b.length + 1:=by
 have h1:=aKO [47] ((sp b).filter ne?)
 have h2:=aJS (sp b)
 have h3:=bxi b
 unfold aqf at h1 h2
 dsimp only [List.length_cons,List.length_nil] at h1 h2
 walk_at "O"
theorem aVR {b:Bs} (hb:b.length≤1000) (h0:o[0]? = some .tab):ajX [.bytes b] ⟨l,o⟩ Q E=Q (.bytes (akJ [47] ((sp b).filter ne?))) ⟨l,o⟩:=by
 have hl:=axV 47 b
 have hp:∀ p∈sp b,p.length≤1000:=fun p hp=>by have:=hl.2 p hp;walk_at "O"
 have hj:aqf [47] ((sp b).filter ne?)≤16777216:=by
  unfold aqf
  have h1:=bjw ((sp b).filter ne?) fun p hp'=>hp p (List.mem_filter.mp hp').1
  have h2:((sp b).filter ne?).length≤(sp b).length:=List.length_filter_le _ _
  have h3:(sp b).length≤b.length + 1:=hl.1
  dsimp only [List.length_cons,List.length_nil]
  walk_at "O"
 have run:∀ (Q:MV→MSt→Prop) (E:Value→MSt→Prop) (l:List MV),bkr [47] 0 (.list ((sp b).map MV.bytes)) ⟨l,o⟩ Q E=Q (.bytes (akJ [47] ((sp b).filter ne?))) ⟨l,o⟩:=fun Q E l=>by
  unfold bkr
  refine propext ⟨fun ⟨_,bs,e,_,_,_,q⟩=>?_,fun q=>⟨h0,sp b,rfl,by have h3:(sp b).length≤b.length + 1:=hl.1;walk_at "O",hp,hj,q⟩⟩
  have:=aZs (MV.list.inj e)
  rw [← this] at q
  exact q
 unfold ajX fnM aqJ
 wide_open with [run,show b.length≤10000 by walk_at "O"]
theorem bQM {b x y:Bs}:mIn (.bytes b) (.tup [.bytes x,.bytes y]) ⟨l,o⟩ Q E=Q (.bool (decide (b=x) || decide (b=y))) ⟨l,o⟩:=by
 have h:inV ⟨l,o⟩ (.bytes b) (.tup [.bytes x,.bytes y])=some (decide (b=x) || decide (b=y)):=by
  show akw b [.bytes x,.bytes y]=_
  show some ((x == b) || ((y == b) || false))=_
  rw [Bool.or_false,azN,azN]
  have e:∀ u v:Bs,decide (u=v)=decide (v=u):=fun u v=>by by_cases h:u=v<;>simp [h,eq_comm]
  rw [e x b,e y b]
 exact bqJ h
theorem bj4 {b:Bs} (h:b.take 5=aK5) (hl:b.getLast?≠some 47):b.drop 5≠[]∧(b.drop 5).getLast?≠some 47∧b=aK5++b.drop 5:=by
 have e:b=aK5++b.drop 5:=by rw [← h,List.take_append_drop]
 have hne:b.drop 5≠[]:=by
  intro z
  rw [z,List.append_nil] at e
  rw [e] at hl
  exact hl rfl
 refine ⟨hne,?_,e⟩
 intro z
 apply hl
 rw [e,List.getLast?_append,z];rfl
theorem akU {b:Bs} (hb:b.length≤1000) (h0:o[0]? = some .tab) (hl:b.getLast?≠some 47):aqp [.refs 1,.bytes b] ⟨l,o⟩ Q E=if ajN b=true then Q .none ⟨l,o⟩ else E aKV ⟨l,o⟩:=by
 have e2:(b.drop 5).length≤1000:=by rw [List.length_drop];walk_at "O"
 have ej2:(akJ [47] ((sp (b.drop 5)).filter ne?)).length≤1000:=by have h1:=bkD (b.drop 5);rw [List.length_drop] at h1;have h2:=congrArg List.length (List.take_append_drop 5 b);walk_at "O"
 have k1:∀ b:Bs,decide (b=[72,69,65,68])=decide (b=bqS):=fun _=>rfl
 have k2:∀ b:Bs,decide (b=[114,101,102,115,47,115,116,97,115,104])=decide (b=aK0):=fun _=>rfl
 have k3:aqL b [114,101,102,115,47]=decide (b.take 5=aK5):=by rw [azi];rfl
 unfold aqp fnM azs ajN
 wide_open with [aXc,bQM,k1,k2,k3]
 cases h1:decide (b=bqS)
 ·cases h2:decide (b=aK0)
  ·cases h3:decide (b.take 5=aK5)
   ·wide_open with [Bool.or_false,Bool.false_and,Bool.false_eq_true,if_false]
    try simp
   ·have h3':=of_decide_eq_true h3
    refine bke (bj4 h3' hl) fun q1 q2 q3=>?_
    have hle:=bkA q1 q2
    have q3':([114,101,102,115,47]:Bs)++b.drop 5=b:=q3.symm
    rw [q3'] at hle
    rw [hle]
    wide_open with [Bool.or_false,Bool.false_or,Bool.true_and,aKE,show b.length≤16777216 by walk_at "O",aXc,bvq e2]
    cases h4:bj7 (b.drop 5)
    ·wide_open with [Bool.false_or]
     cases h5:bIn [47,47] b
     ·wide_open with [Bool.false_and,Bool.false_eq_true,if_false]
      try simp
     ·wide_open with [Bool.true_and,aVR e2 h0,aXc,bvq ej2]
      cases bj7 (akJ [47] ((sp (b.drop 5)).filter ne?))<;>wide_open with [Bool.false_eq_true,if_false,if_true]<;>(try simp)
    ·wide_open with [Bool.true_or,if_true]
  ·wide_open with [Bool.or_true,Bool.true_or,if_true]
 ·wide_open with [Bool.true_or,if_true]
end
end Mine
namespace Mine
open PySem PySem.W
noncomputable def bqR (i:Int):Option Int:=if 48≤i∧i≤57 then some (i - 48) else if 65≤i∧i≤70 then some (i - 55) else if 97≤i∧i≤102 then some (i - 87) else none
theorem aQS {i v:Int} (h:bqR i=some v):0≤v∧v < 16:=by
 unfold bqR at h
 split at h
 ·cases h;walk_at "O"
 ·split at h
  ·cases h;walk_at "O"
  ·split at h
   ·cases h;walk_at "O"
   ·cases h
section
variable {l:List MV}{o:List MO}{st:MSt}{Q:MV→MSt→Prop}{E:Value→MSt→Prop}
theorem aV3 {i:Int}:azG [.int i] st Q E=(match bqR i with | some v=>Q (.int v) st | none=>E aQ6 st):=by
 rw [bvp]
 unfold bqR
 split
 ·rfl
 ·split
  ·rfl
  ·split<;>rfl
theorem bxW {b:Bs}{i:Nat} (h:i < b.length):bAt b (i:Int)=some (b.getD i 0):=by
 unfold bAt seqIndex?
 rw [if_neg (show ¬ (i:Int) < 0 by walk_at "O")]
 have h2:(decide ((0:Int)≤i) && decide ((i:Int) < b.length))=true:=by
  rw [Bool.and_eq_true,decide_eq_true_eq,decide_eq_true_eq];walk_at "O"
 rw [if_pos h2]
 show b[((i:Int)).toNat]? = _
 rw [Int.toNat_natCast,List.getD_eq_getElem?_getD,List.getElem?_eq_getElem h];rfl
noncomputable abbrev bZs:M MV:=(ajs (ajs (bnd (aj0 (ajs (getL 1) (getL 0) ajG) (ret [])) azG) (ret (MV.int 16)) aJo) (bnd (aj0 (ajs (getL 1) (ajs (getL 0) (ret (MV.int 1)) akc) ajG) (ret [])) azG) akc)
noncomputable def aXy (b:Bs) (i:Nat):Bool:=(bqR ((b.getD i 0).toNat:Int)).isSome
theorem aQY {x:MV}{xs:List MV}{mt:M Bool}{me:M MV}{QL:List MV→MSt→Prop}:axP (x::xs) mt me st QL E=ajD 0 x st (fun _ st1=>mt st1 (fun t st2=>cond t (me st2 (fun y st3=>axP xs mt me st3 (fun ys st4=>QL (y::ys) st4) E) E) (axP xs mt me st2 QL E)) E) E:=by
 show (bnd (ajD 0 x) fun _=>bnd mt fun t=>cond t _ _) st QL E=_
 simp only [aQl,bxP,aK4]
theorem bZ4 {mt:M Bool}{me:M MV}{QL:List MV→MSt→Prop}:axP [] mt me st QL E=QL [] st:=rfl
theorem aVg {b:Bs} (hb:b.length≤1000):∀ (js:List Nat) (x:MV),(∀ j∈js,2 * j + 1 < b.length)→
  ((js.all fun j=>aXy b (2 * j) && aXy b (2 * j + 1))=true→∃ (y:MV) (ns:List Int),ns.length=js.length∧(∀ n∈ns,(0:Int)≤n∧n < 256)∧∀ QL E,axP (js.map fun i:Nat=>MV.int (2 * (i:Int))) (ret true) bZs ⟨[x,.bytes b],o⟩ QL E=QL (ns.map MV.int) ⟨[y,.bytes b],o⟩)∧
  ((js.all fun j=>aXy b (2 * j) && aXy b (2 * j + 1))=false→∃ y,∀ QL E,axP (js.map fun i:Nat=>MV.int (2 * (i:Int))) (ret true) bZs ⟨[x,.bytes b],o⟩ QL E=E aQ6 ⟨[y,.bytes b],o⟩)
 | [],x,h=>⟨fun _=>⟨x,[],rfl,(fun n hn=>by cases hn),fun QL E=>rfl⟩,fun z=>by cases z⟩
 | j::js,x,h=>by
  obtain ⟨ih1,ih2⟩:=aVg hb js (.int (2 * (j:Int))) (fun i hi=>h i (.tail _ hi))
  have hj:=h j (.head _)
  have e1:bAt b (2 * (j:Int))=some (b.getD (2 * j) 0):=by have:=bxW (b:=b) (i:=2 * j) (by walk_at "O");rw [← this];congr 1
  have e2:bAt b (2 * (j:Int) + 1)=some (b.getD (2 * j + 1) 0):=by have:=bxW (b:=b) (i:=2 * j + 1) (by walk_at "O");rw [← this];congr 1
  have e3:b.length≤1099511627776:=by walk_at "O"
  have e4:Builtin.Int.intBits 16≤64:=by decide
  have run:∀ (QL:List MV→MSt→Prop) (E:Value→MSt→Prop),axP ((j::js).map fun i:Nat=>MV.int (2 * (i:Int))) (ret true) bZs ⟨[x,.bytes b],o⟩ QL E =
    match bqR ((b.getD (2 * j) 0).toNat:Int) with
    | none=>E aQ6 ⟨[.int (2 * (j:Int)),.bytes b],o⟩
    | some u=>match bqR ((b.getD (2 * j + 1) 0).toNat:Int) with
     | none=>E aQ6 ⟨[.int (2 * (j:Int)),.bytes b],o⟩
     | some v=>axP (js.map fun i:Nat=>MV.int (2 * (i:Int))) (ret true) bZs ⟨[.int (2 * (j:Int)),.bytes b],o⟩ (fun ys st4=>QL (.int (u * 16 + v)::ys) st4) E:=fun QL E=>by
   rw [List.map_cons,aQY]
   wide_open with [e1,e2,e3,e4,exists_eq_left',aV3]
   cases bqR ((b.getD (2 * j) 0).toNat:Int) with
   | none=>rfl
   | some u=>
    wide_open with [e2,e3,e4,exists_eq_left',aV3]
    cases bqR ((b.getD (2 * j + 1) 0).toNat:Int) with
    | none=>rfl
    | some v=>rfl
  rw [List.all_cons]
  unfold aXy at ih1 ih2 ⊢
  cases h1:bqR ((b.getD (2 * j) 0).toNat:Int) with
  | none=>
   refine ⟨fun z=>by simp at z,fun _=>⟨.int (2 * (j:Int)),fun QL E=>by rw [run,h1]⟩⟩
  | some u=>
   cases h2:bqR ((b.getD (2 * j + 1) 0).toNat:Int) with
   | none=>refine ⟨fun z=>by simp at z,fun _=>⟨.int (2 * (j:Int)),fun QL E=>by rw [run,h1];simp only [h2]⟩⟩
   | some v=>
    have r1:=aQS h1
    have r2:=aQS h2
    refine ⟨fun z=>?_,fun z=>?_⟩
    ·refine ax0 (ih1 (by simpa using z)) fun y ns q1 q2 q3=>?_
     refine ⟨y,(u * 16 + v)::ns,by rw [List.length_cons,List.length_cons,q1],fun n hn=>?_,fun QL E=>?_⟩
     ·rcases List.mem_cons.mp hn with rfl | hn
      ·walk_at "O"
      ·exact q2 n hn
     ·rw [run,h1];simp only [h2];rw [q3];rfl
    ·obtain ⟨y,q⟩:=ih2 (by simpa using z)
     exact ⟨y,fun QL E=>by rw [run,h1];simp only [h2];rw [q]⟩
noncomputable def aVn (b:Bs):Bool:=(List.range ((b.length + 1) / 2)).all fun j=>aXy b (2 * j) && aXy b (2 * j + 1)
theorem aQR:∀ ns:List Int,avW (ns.map MV.int)=some ns
 | []=>rfl
 | n::ns=>by show (avW (ns.map MV.int)).map (n::·)=_;rw [aQR ns];rfl
theorem aX9 {b:Bs} (hb:b.length≤1000) (he:b.length % 2=0) (hq:aVn b=true→∀ x,Q (.bytes x) ⟨l,o⟩) (hE:aVn b=false→E aQ6 ⟨l,o⟩):azF [.bytes b] ⟨l,o⟩ Q E:=by
 obtain ⟨k1,k2⟩:=aVg (o:=o) hb (List.range ((b.length + 1) / 2)) .unb (fun j hj=>by have:=List.mem_range.mp hj;walk_at "O")
 have e0:((b.length:Int).fmod 2)=0:=by
  have:(b.length:Int).fmod 2=(b.length:Int) % 2:=Int.fmod_eq_emod_of_nonneg _ (by decide)
  rw [this];walk_at "O"
 have e1:b.length≤1099511627776:=by walk_at "O"
 have er:∀ (QL:List MV→MSt→Prop) (E:Value→MSt→Prop) st,axB [.int 0,.int (b.length:Int),.int 2] st QL E=QL ((List.range ((b.length + 1) / 2)).map fun i:Nat=>MV.int (2 * (i:Int))) st:=fun QL E st=>by
  have:((b.length:Int)).toNat=b.length:=Int.toNat_natCast _
  show ((0:Int)=0∧(0:Int)≤(b.length:Int)∧(b.length:Int)≤1000∧(2:Int)=2∧QL ((List.range ((((b.length:Int)).toNat + 1) / 2)).map fun i:Nat=>MV.int (2 * (i:Int))) st)=_
  rw [this]
  exact propext ⟨fun ⟨_,_,_,_,q⟩=>q,fun q=>⟨rfl,by walk_at "O",by walk_at "O",rfl,q⟩⟩
 have e3:((List.range ((b.length + 1) / 2)).map fun i:Nat=>MV.int (2 * (i:Int))).length≤2000:=by rw [List.length_map,List.length_range];walk_at "O"
 unfold azF axI
 wide_open with [e0,e1,Int.reduceEq,not_true_eq_false]
 unfold ax7 bqM aQZ
 wide_open with [er,e1,e3,List.map_cons,List.map_nil,List.mem_singleton,forall_eq]
 cases hh:aVn b with
 | true=>
  refine ax0 (k1 hh) fun y ns q1 q2 q3=>?_
  have e4:(ns.map MV.int).length≤1000:=by rw [List.length_map,q1,List.length_range];walk_at "O"
  have eb:∀ (Q:MV→MSt→Prop) E st,Q (.bytes (ns.map fun n=>n.toNat.toUInt8)) st→avV [.list (ns.map MV.int)] st Q E:=fun Q E st q=>⟨ns,aQR ns,q2,e4,q⟩
  refine (q3 _ _).symm ▸ ⟨rfl,?_⟩
  refine eb _ _ _ ?_
  wide_open with []
  exact hq hh _
 | false=>
  obtain ⟨y,q⟩:=k2 hh
  exact (q _ _).symm ▸ ⟨rfl,hE hh⟩
end
end Mine
namespace Mine
open PySem PySem.W
noncomputable def bkI (b:Bs):Bool:=(decide (b.length=40) || decide (b.length=64)) && aVn b
noncomputable def akX (v:Bs):Bool:=bkI v || decide (v.take 5=akb)
noncomputable abbrev avq:Bs:=List.replicate 40 48
noncomputable def Upd (o o':List MO) (d':D):Prop:=o'.length=o.length∧o'[1]? = some (.dict (emb d'))∧∀ i,i≠1→o'[i]? = o[i]?
noncomputable def aqO (x:Option Bs):MV:=(x.map MV.bytes).getD .none
section
variable {l:List MV}{o:List MO}{d:D}{st:MSt}{Q:MV→MSt→Prop}{E:Value→MSt→Prop}
theorem aZ5 (h:o[1]? = some (.dict (emb d))) (d':D):Upd o (o.set 1 (.dict (emb d'))) d':=⟨List.length_set,bZS h,fun i hi=>List.getElem?_set_ne (fun z=>hi z.symm)⟩
theorem aXZ (h:o[1]? = some (.dict (emb d))):Upd o o d:=⟨rfl,h,fun i _=>rfl⟩
theorem bvV {n:Nat}:ax6 (.int (n:Int)) (.tup [.int 40,.int 64]) ⟨l,o⟩ Q E=Q (.bool (!(decide (n=40) || decide (n=64)))) ⟨l,o⟩:=by
 have h:inV ⟨l,o⟩ (.int (n:Int)) (.tup [.int 40,.int 64])=some (decide (n=40) || decide (n=64)):=by
  show axa (n:Int) [.int 40,.int 64]=_
  have k:∀ m:Nat,((m:Int) == (n:Int))=decide (n=m):=fun m=>by
   by_cases h:n=m
   ·subst h;simp
   ·have:¬ (m:Int)=(n:Int):=by walk_at "O"
    rw [beq_eq_false_iff_ne.mpr this,decide_eq_false h]
  have k1:=k 40;have k2:=k 64
  simp only [axa,aQn,Option.bind_some,Option.map_some,Bool.or_false]
  rw [show (40:Int)=((40:Nat):Int) from rfl,show (64:Int)=((64:Nat):Int) from rfl,k1,k2]
 exact aV7 h
theorem bZl:(aQ6,true)∈aKZ:=by exact .head _
theorem bvm {b:Bs} (hb:b.length≤1000) (hQ:Q (.bool (bkI b)) ⟨l,o⟩):aqI [.bytes b] ⟨l,o⟩ Q E:=by
 unfold bkI at hQ
 unfold aqI fnM azT
 wide_open with [bvV,show b.length≤1099511627776 by walk_at "O"]
 by_cases h:b.length=40∨b.length=64
 ·have h1:(decide (b.length=40) || decide (b.length=64))=true:=by simpa using h
  rw [h1,Bool.true_and] at hQ
  wide_open with [h1,aQt]
  refine aX9 hb (by walk_at "O") (fun hh x=>?_) (fun hh=>?_)
  ·rw [hh] at hQ
   wide_open with []
   exact hQ
  ·rw [hh] at hQ
   refine ⟨true,bZl,?_⟩
   rw [if_pos rfl]
   wide_open with []
   exact hQ
 ·have h1:(decide (b.length=40) || decide (b.length=64))=false:=by
   cases z:(decide (b.length=40) || decide (b.length=64)) with
   | false=>rfl
   | true=>exact absurd (by simpa using z) h
  rw [h1,Bool.false_and] at hQ
  wide_open with [h1]
  exact hQ
theorem azd {v:Bs} (hv:v.length≤1000) (h1:akX v=true→Q .none ⟨l,o⟩) (h2:akX v=false→E aQ6 ⟨l,o⟩):ajx [.refs 1,.bytes v] ⟨l,o⟩ Q E:=by
 unfold akX at h1 h2
 unfold ajx fnM aqU
 walk_at "S"
 refine bvm hv ?_
 have k3:aqL v [114,101,102,58,32]=decide (v.take 5=akb):=by rw [azi];rfl
 have hm:∀ (Q:MV→MSt→Prop) E st,(∀ x,Q (.str x) st)→bvD (.bytes v) st Q E:=fun Q E st q=>⟨by walk_at "O",q⟩
 cases h3:bkI v
 ·wide_open with [k3]
  cases h4:decide (v.take 5=akb)
  ·wide_open with []
   refine hm _ _ _ fun x=>?_
   wide_open with [List.length_cons,List.length_nil]
   exact h2 (by rw [h3,h4];rfl)
  ·wide_open with []
   exact h1 (by rw [h4,Bool.or_true])
 ·wide_open with []
  exact h1 (by rw [h3];rfl)
theorem bZv (h:o[1]? = some (.dict (emb d))) (hn:(aj7 d).Nodup) (hl:d.length≤1000) {k v:Bs}{QU:Unit→MSt→Prop}:aQX (.obj 1) (.bytes k) (.bytes v) ⟨l,o⟩ QU E=QU () ⟨l,o.set 1 (.dict (emb (aJh d k v)))⟩:=by
 rw [bxO]
 simp only [h,Option.some.injEq,MO.dict.injEq,exists_eq_left',ajC,hn,avH,hl,true_and,bz5]
theorem bKn (h:o[1]? = some (.dict (emb d))) (hn:(aj7 d).Nodup) {k:Bs}:mIn (.bytes k) (.obj 1) ⟨l,o⟩ Q E=Q (.bool (decide (k∈aj7 d))) ⟨l,o⟩:=by
 have e:inV ⟨l,o⟩ (.bytes k) (.obj 1)=some (decide (k∈aj7 d)):=by
  show (match o[1]? with | some (.dict es)=>if (ajn es).Nodup then some (aqr es k).isSome else none | _=>none)=_
  rw [h]
  show (if (ajn (emb d)).Nodup then some (aqr (emb d) k).isSome else none)=_
  rw [ajC,if_pos hn,akr,← azx]
  cases ajp d k<;>rfl
 exact bqJ e
theorem axb (x:Option Bs):(x.map MV.bytes).getD (.bytes [48,48,48,48,48,48,48,48,48,48,48,48,48,48,48,48,48,48,48,48,48,48,48,48,48,48,48,48,48,48,48,48,48,48,48,48,48,48,48,48]) = .bytes (x.getD avq):=by cases x<;>rfl
noncomputable def other (d:D) (name:Bs) (old:Option Bs):Bool:=match old with
 | none=>false
 | some x=>!decide ((ajp d name).getD avq=x)
theorem aV2 {name v:Bs}{old:Option Bs} (h0:o[0]? = some .tab) (h:o[1]? = some (.dict (emb d))) (hn:(aj7 d).Nodup) (hl:d.length≤1000) (hb:name.length≤1000) (hs:name.getLast?≠some 47) (hv:v.length≤1000)
  (k1:akX v=false→E aQ6 ⟨l,o⟩) (k2:akX v=true→other d name old=true→Q (.bool false) ⟨l,o⟩) (k3:akX v=true→other d name old=false→ajN name=false→E aKV ⟨l,o⟩)
  (k4:akX v=true→other d name old=false→ajN name=true→∀ o',Upd o o' (aJh d name v)→Q (.bool true) ⟨l,o'⟩):ajY [.refs 1,.bytes name,aqO old,.bytes v] ⟨l,o⟩ Q E:=by
 have tail:ajN name=true→akX v=true→other d name old=false→akd o (o.set 1 (.dict (emb (aJh d name v))))∧Q (.bool true) ⟨l,(o.set 1 (.dict (emb (aJh d name v)))).take o.length⟩:=fun h1 h2 h3=>⟨aJq,by rw [aJl];exact k4 h2 h3 h1 _ (aZ5 h _)⟩
 unfold ajY fnM azr
 cases old with
 | none=>
  simp only [aqO,Option.map_none,Option.getD_none]
  wide_open with []
  refine azd hv (fun hok=>?_) (fun hok=>?_)
  ·wide_open with [aq3,ajE,akU hb h0 hs]
   cases hr:ajN name with
   | false=>
    rw [if_neg (by decide)]
    exact k3 hok rfl hr
   | true=>
    rw [if_pos rfl]
    wide_open with [dg2 (bjo h) hn,isD (bjo h) hn,aqA,bZv h hn hl]
    exact tail hr hok rfl
  ·wide_open with []
   exact k1 hok
 | some x=>
  simp only [aqO,Option.map_some,Option.getD_some]
  wide_open with []
  refine azd hv (fun hok=>?_) (fun hok=>?_)
  ·wide_open with [aq3,ajE,dg3 (bjo h) hn,isD (bjo h) hn,axb,akU hb h0 hs]
   cases hx:decide ((ajp d name).getD avq=x) with
   | false=>
    wide_open with []
    exact k2 hok (by show (!decide ((ajp d name).getD avq=x))=_;rw [hx];rfl)
   | true=>
    wide_open with []
    have ho2:other d name (some x)=false:=by show (!decide ((ajp d name).getD avq=x))=_;rw [hx];rfl
    cases hr:ajN name with
    | false=>
     rw [if_neg (by decide)]
     exact k3 hok ho2 hr
    | true=>
     rw [if_pos rfl]
     wide_open with [dg2 (bjo h) hn,isD (bjo h) hn,aqA,bZv h hn hl]
     exact tail hr hok ho2
  ·wide_open with []
   exact k1 hok
theorem bq2 {name v:Bs} (h0:o[0]? = some .tab) (h:o[1]? = some (.dict (emb d))) (hn:(aj7 d).Nodup) (hl:d.length≤1000) (hb:name.length≤1000) (hs:name.getLast?≠some 47) (hv:v.length≤1000)
  (k1:akX v=false→E aQ6 ⟨l,o⟩) (k3:akX v=true→ajN name=false→E aKV ⟨l,o⟩)
  (k4:akX v=true→ajN name=true→∀ o',Upd o o' (aJh d name v)→Q .none ⟨l,o'⟩):akj [.refs 1,.bytes name,.bytes v] ⟨l,o⟩ Q E:=by
 unfold akj fnM avB
 wide_open with []
 refine azd hv (fun hok=>?_) (fun hok=>?_)
 ·wide_open with []
  refine aV2 (old:=none) h0 h hn hl hb hs hv (fun z=>by rw [hok] at z;cases z) (fun _ z=>by cases z) (fun _ _ hr=>?_) (fun _ _ hr o' hu=>?_)
  ·exact ⟨akd.same _,by rw [ake];exact k3 hok hr⟩
  ·refine ⟨fun i mo hi hm=>?_,?_⟩
   ·by_cases z:i=1
    ·subst z
     rw [hu.2.1] at hm;cases hm
     right;show MV.cld _ _;exact axE _ _
    ·rw [hu.2.2 i z] at hm;exact .inl hm
   ·have:o'.take o.length=o':=List.take_of_length_le (by rw [hu.1];exact Nat.le_refl _)
    rw [this]
    exact k4 hok hr o' hu
 ·wide_open with []
  exact k1 hok
theorem bkd {name v:Bs} (h:o[1]? = some (.dict (emb d))) (hn:(aj7 d).Nodup) (hl:d.length≤1000) (hv:v.length≤1000)
  (k1:akX v=false→E aQ6 ⟨l,o⟩) (k2:akX v=true→name∈aj7 d→Q (.bool false) ⟨l,o⟩)
  (k4:akX v=true→name∉aj7 d→∀ o',Upd o o' (aJh d name v)→Q (.bool true) ⟨l,o'⟩):azf [.refs 1,.bytes name,.bytes v] ⟨l,o⟩ Q E:=by
 unfold azf fnM ax5
 wide_open with []
 refine azd hv (fun hok=>?_) (fun hok=>?_)
 ·wide_open with [bKn h hn]
  by_cases hm:name∈aj7 d
  ·wide_open with [decide_eq_true hm]
   exact k2 hok hm
  ·wide_open with [decide_eq_false hm,bZv h hn hl]
   exact ⟨aJq,by rw [aJl];exact k4 hok hm _ (aZ5 h _)⟩
 ·wide_open with []
  exact k1 hok
theorem memK:(aVD,true)∈bzE:=by exact .tail _ (.head _)
theorem bQW (h:o[1]? = some (.dict (emb d))) (hn:(aj7 d).Nodup) (hl:d.length≤1000) {k:Bs}:bJE [.obj 1,.bytes k] ⟨l,o⟩ Q E=match ajp d k with | some v=>Q (.bytes v) ⟨l,o.set 1 (.dict (emb (aQ5 d k)))⟩ | none=>E aVD ⟨l,o⟩:=by
 rw [bQZ]
 simp only [h,Option.some.injEq,MO.dict.injEq,exists_eq_left',ajC,hn,avH,hl,true_and,bJ4,akr]
 cases ajp d k<;>rfl
theorem bka {name:Bs}{old:Option Bs} (h:o[1]? = some (.dict (emb d))) (hn:(aj7 d).Nodup) (hl:d.length≤1000)
  (k2:other d name old=true→Q (.bool false) ⟨l,o⟩) (k4:other d name old=false→∀ o' d',Upd o o' d'→(d'=aQ5 d name∨(d'=d∧ajp d name=none))→Q (.bool true) ⟨l,o'⟩):aqs [.refs 1,.bytes name,aqO old] ⟨l,o⟩ Q E:=by
 have tail:∀ (x:MV),x≠.unb→other d name old=false→ajc (aVE (aqc (ajk ax9 (bnd (getL 0) azB) (aj0 (getL 1) (ret [])) bJE) 3) (aq0 [(bzE,(ret MF.next))]) (ret MF.next)) (aju (ret (MV.bool true)))
   ⟨[.refs 1,.bytes name,x,.unb],o⟩ (fun f st'=>f.val.cl o.length∧akd o st'.objs∧Q f.val ⟨l,st'.objs.take o.length⟩) (fun c st'=>akd o st'.objs∧E c ⟨l,st'.objs.take o.length⟩):=fun x hx hot=>by
  wide_open with [aQt,bQW h hn hl,isD (bjo h) hn]
  cases hg:ajp d name with
  | some v=>
   wide_open with []
   exact ⟨aJq,by rw [aJl];exact k4 hot _ _ (aZ5 h _) (.inl rfl)⟩
  | none=>
   refine ⟨true,memK,?_⟩
   rw [if_pos rfl]
   wide_open with []
   exact k4 hot _ _ (aXZ h) (.inr ⟨rfl,hg⟩)
 cases old with
 | none=>
  simp only [aqO,Option.map_none,Option.getD_none]
  refine aXB rfl ?_
  rw [aqb]
  refine aji fun K kn kr kb kc=>?_
  wide_open with [aq3,ajE]
  refine kn _ ?_
  exact tail .none (by simp) rfl
 | some x=>
  simp only [aqO,Option.map_some,Option.getD_some]
  refine aXB rfl ?_
  rw [aqb]
  refine aji fun K kn kr kb kc=>?_
  wide_open with [aq3,ajE,dg3 (bjo h) hn,isD (bjo h) hn,axb]
  cases hx:decide ((ajp d name).getD avq=x) with
  | false=>
   wide_open with []
   refine kr _ _ ?_
   wide_open with []
   exact k2 (by show (!decide ((ajp d name).getD avq=x))=_;rw [hx];rfl)
  | true=>
   wide_open with []
   refine kn _ ?_
   exact tail (.bytes x) (by simp) (by show (!decide ((ajp d name).getD avq=x))=_;rw [hx];rfl)
end
end Mine
namespace Mine
open PySem PySem.W
noncomputable def ajq (d:D):Nat→Bs→Option (List Bs×Option Bs)
 | 0,n=>match ajp d n with
  | none=>some ([n],none)
  | some _=>none
 | k + 1,n=>match ajp d n with
  | none=>some ([n],none)
  | some v=>if v.take 5=akb then (ajq d k (v.drop 5)).map (fun r=>(n::r.1,r.2)) else some ([n],some v)
noncomputable abbrev bJg:M Bool:=(ifM (bnd (getL 2) aj3) (ifM (bnd (ajk aqz (getL 2) (aj0 (ret (MV.bytes [114,101,102,58,32])) (ret [])) azt) aj3) (ret true) (ret false)) (ret false))
noncomputable abbrev bx1:M MF:=(ajc (aqc (bnd (aj0 (aje (getL 2) (bnd (aj0 (ret (MV.bytes [114,101,102,58,32])) (ret [])) aQL) (ret MV.none)) (ret [])) azI) 5)
 (ajc (axO (ajk aXv (getL 4) (aj0 (getL 5) (ret [])) ako))
 (ajc (aqc (ajk ajK (getL 0) (aj0 (getL 5) (ret [])) aq4) 2)
 (ajc (ifM (aKU (bnd (getL 2) aj3)) (ret MF.brk) (ret MF.next))
 (ajc (bXa 3 (ret (MV.int 1)))
 (ifM (ajh (getL 3) (ret (MV.int 5)) mGt aj3) (bnd (aj0 (getL 1) (aj0 (getL 3) (ret []))) fun as=>aqg (aKt as) (axC akG)) (ret MF.next)))))))
section
variable {l:List MV}{o:List MO}{d:D}{Q:MV→MSt→Prop}{E:Value→MSt→Prop}
theorem akx {m:MO}:(o++[m])[o.length]? = some m:=by rw [List.getElem?_append_right (Nat.le_refl _),Nat.sub_self];rfl
theorem avN {m m':MO}:(o++[m]).set o.length m'=o++[m']:=by rw [List.set_append_right _ _ (Nat.le_refl _),Nat.sub_self];rfl
theorem axi {m mo:MO} (h:o[1]? = some mo):(o++[m])[1]? = some mo:=by rw [List.getElem?_append_left (List.getElem?_eq_some_iff.mp h).1];exact h
theorem aZD {xs:List MV}:aJQ (.obj o.length) ⟨l,o++[.list xs]⟩=True:=by
 exact eq_true ⟨_,xs,rfl,akx⟩
theorem aZO {xs:List MV}{v:MV} (h:xs.length≤10000):ako [.obj o.length,v] ⟨l,o++[.list xs]⟩ Q E=Q .none ⟨l,o++[.list (xs++[v])]⟩:=by
 rw [bqu]
 simp only [akx,Option.some.injEq,MO.list.injEq,exists_eq_left',h,true_and,avN]
theorem aJr {xs:List MV}:ajO (.obj o.length) ⟨l,o++[.list xs]⟩ Q E=Q (.list xs) ⟨l,o++[.dead]⟩:=by
 dsimp only [ajO]
 simp only [akx,avN]
theorem bKg (b:Bs):aqL b [114,101,102,58,32]=decide (b.take 5=akb):=by rw [azi];rfl
theorem bZn {st:MSt}:aQL [.bytes [114,101,102,58,32]] st Q E=Q (.int 5) st:=by
 rw [bQF];exact propext ⟨fun h=>h.2,fun h=>⟨by decide,h⟩⟩
theorem aXI {name c:Bs}{i:Int}{acc:List MV}{x5:MV} (h:o[1]? = some (.dict (emb d))) (hn:(aj7 d).Nodup) (hv:okV d) (hc:c.length≤1000) (ha:acc.length≤100) {QF:MF→MSt→Prop}
  (k0:ajp d (c.drop 5)=none→QF .brk ⟨[.refs 1,.bytes name,.none,.int i,.obj o.length,.bytes (c.drop 5)],o++[.list (acc++[.bytes (c.drop 5)])]⟩)
  (k1:∀ v,ajp d (c.drop 5)=some v→if i + 1 > 5 then E akG ⟨[.refs 1,.bytes name,.bytes v,.int (i + 1),.obj o.length,.bytes (c.drop 5)],o++[.list (acc++[.bytes (c.drop 5)])]⟩ else QF .next ⟨[.refs 1,.bytes name,.bytes v,.int (i + 1),.obj o.length,.bytes (c.drop 5)],o++[.list (acc++[.bytes (c.drop 5)])]⟩) :
  bx1 ⟨[.refs 1,.bytes name,.bytes c,.int i,.obj o.length,x5],o++[.list acc]⟩ QF E:=by
 have hp:∀ a b:MV,aKt [a,b]:=fun a b=>⟨a,b,rfl⟩
 refine aji fun K kn kr kb kc=>?_
 have e5:axx c (some (([114,101,102,58,32]:Bs).length:Int)) none=c.drop 5:=akt c 5
 wide_open with [show c.length≤16777216 by walk_at "O",e5,aXc]
 refine ⟨by decide,kn _ ?_⟩
 refine aji fun K kn kr kb kc=>?_
 wide_open with [aZD,aZO (show acc.length≤10000 by walk_at "O")]
 refine kn _ ?_
 refine aji fun K kn kr kb kc=>?_
 wide_open with [avx (axi h) hn hv,aqA]
 refine kn _ ?_
 cases hg:ajp d (c.drop 5) with
 | none=>
  refine aji fun K kn kr kb kc=>?_
  wide_open with []
  exact kb _ (k0 hg)
 | some v=>
  obtain ⟨v1,v2⟩:=akY hv hg
  refine aji fun K kn kr kb kc=>?_
  wide_open with [v1,show v.length≤1099511627776 by walk_at "O"]
  refine kn _ ?_
  refine aji fun K kn kr kb kc=>?_
  wide_open with []
  refine kn _ ?_
  have:=k1 v hg
  wide_open with [hp]
  by_cases hi:i + 1 > 5
  ·rw [if_pos hi] at this
   rw [decide_eq_true hi]
   exact this
  ·rw [if_neg hi] at this
   rw [decide_eq_false hi]
   exact this
theorem aJW {name c:Bs}{x3 x4 x5:MV}{o:List MO}{E:Value→MSt→Prop} (h1:c≠[]) (h2:c.length≤1000) {QB:Bool→MSt→Prop}:bJg ⟨[.refs 1,.bytes name,.bytes c,x3,x4,x5],o⟩ QB E=QB (decide (c.take 5=akb)) ⟨[.refs 1,.bytes name,.bytes c,x3,x4,x5],o⟩:=by
 wide_open with [h1,show c.length≤1099511627776 by walk_at "O",bKg]
 cases decide (c.take 5=akb)<;>rfl
theorem azz {n:Nat}{c:M Bool}{b:M MF}{st:MSt}{QF:MF→MSt→Prop}:akK (n + 1) c b st QF E=c st (fun t st'=>cond t (b st' (fun f st2=>match f with | .next=>akK n c b st2 QF E | .cont=>akK n c b st2 QF E | .brk=>QF .next st2 | .ret v=>QF (.ret v) st2) E) (QF .next st')) E:=by
 show bnd c _ st QF E=_
 rw [aQl]
 congr 1
 funext t st'
 cases t with
 | false=>rfl
 | true=>
  show bnd b _ st' QF E=_
  rw [aQl]
  show _=b st' _ E
  congr 1
  funext f st2
  cases f<;>rfl
noncomputable abbrev bKH (d:D) (o:List MO) (name:Bs) (E:Value→MSt→Prop) (QF:MF→MSt→Prop) (k:Nat):Prop:=∀ (i:Int) (c:Bs) (acc:List MV) (x5:MV),i=5 - k→c.take 5=akb→c.length≤1000→acc.length + k≤50→
  (∀ ns e,ajq d k (c.drop 5)=some (ns,e)→∀ i' x',QF .next ⟨[.refs 1,.bytes name,aqO e,.int i',.obj o.length,x'],o++[.list (acc++ns.map MV.bytes)]⟩)→
  (ajq d k (c.drop 5)=none→∀ loc acc',E akG ⟨loc,o++[.list acc']⟩)→
  akK (k + 2) bJg bx1 ⟨[.refs 1,.bytes name,.bytes c,.int i,.obj o.length,x5],o++[.list acc]⟩ QF E
theorem aJu {name:Bs} (h:o[1]? = some (.dict (emb d))) (hn:(aj7 d).Nodup) (hv:okV d) {QF:MF→MSt→Prop} (k:Nat) (ih:∀ k',k=k' + 1→bKH d o name E QF k'):bKH d o name E QF k:=by
  intro i c acc x5 hi hc hcl ha hq he
  have hne:c≠[]:=by rintro rfl;cases hc
  rw [azz,aJW hne hcl,decide_eq_true hc]
  show bx1 _ _ E
  refine aXI h hn hv hcl (by walk_at "O") (fun hg=>?_) (fun v hg=>?_)
  ·have:ajq d k (c.drop 5)=some ([c.drop 5],none):=by cases k<;>(dsimp only [ajq];rw [hg])
   exact hq _ _ this _ _
  ·obtain ⟨v1,v2⟩:=akY hv hg
   cases k with
   | zero=>
    rw [if_pos (by walk_at "O")]
    exact he (by dsimp only [ajq];rw [hg]) _ _
   | succ k=>
    rw [if_neg (by walk_at "O")]
    show akK (k + 1 + 1) bJg bx1 _ QF E
    by_cases hr:v.take 5=akb
    ·have hch:ajq d (k + 1) (c.drop 5)=(ajq d k (v.drop 5)).map (fun r=>(c.drop 5::r.1,r.2)):=by
      show (match ajp d (c.drop 5) with | none=>_ | some v=>_)=_
      rw [hg]
      exact if_pos hr
     have ih2:=ih k rfl (i + 1) v (acc++[.bytes (c.drop 5)]) (.bytes (c.drop 5)) (by walk_at "O") hr v2 (by rw [List.length_append,List.length_singleton];walk_at "O")
     apply ih2
     ·intro ns e hce i' x'
      have:=hq (c.drop 5::ns) e (by rw [hch,hce];rfl) i' x'
      rw [List.append_assoc]
      exact this
     ·exact fun hce=>he (by rw [hch,hce];rfl)
    ·have hch:ajq d (k + 1) (c.drop 5)=some ([c.drop 5],some v):=by
      show (match ajp d (c.drop 5) with | none=>_ | some v=>_)=_
      rw [hg]
      exact if_neg hr
     rw [azz,aJW v1 v2,decide_eq_false hr]
     exact hq _ _ hch _ _
theorem aXq {name:Bs} (h:o[1]? = some (.dict (emb d))) (hn:(aj7 d).Nodup) (hv:okV d) {QF:MF→MSt→Prop} (k:Nat):bKH d o name E QF k:=by
 induction k with
 | zero=>exact aJu h hn hv 0 fun k' e=>nomatch e
 | succ k ih=>exact aJu h hn hv (k + 1) fun k' e=>by cases e;exact ih
theorem ak7 (n:Nat):∀ ns:List Bs,MV.cls n (ns.map MV.bytes)
 | []=>trivial
 | a::ns=>by rw [List.map_cons];exact ⟨trivial,ak7 n ns⟩
theorem axs (n:Nat) (ns:List Bs) (e:Option Bs):MV.cls n [.list (ns.map MV.bytes),aqO e]:=by
 refine ⟨by exact ak7 n ns,?_,trivial⟩
 cases e<;>exact trivial
theorem aZj {name:Bs} (h:o[1]? = some (.dict (emb d))) (hn:(aj7 d).Nodup) (hv:okV d) (hb:name.length≤900)
  (hq:∀ ns e,ajq d 5 name=some (ns,e)→Q (.tup [.list (ns.map MV.bytes),aqO e]) ⟨l,o⟩) (he:ajq d 5 name=none→E akG ⟨l,o⟩):ax3 [.refs 1,.bytes name] ⟨l,o⟩ Q E:=by
 have hlen:([114,101,102,58,32]:Bs).length + name.length≤16777216:=by show 5 + name.length≤_;walk_at "O"
 have hcl:(([114,101,102,58,32]:Bs)++name).length≤1000:=by rw [List.length_append];show 5 + name.length≤_;walk_at "O"
 have hd:(([114,101,102,58,32]:Bs)++name).drop 5=name:=rfl
 have hcv:∀ (ns:List Bs) (e:Option Bs),ajq d 5 name=some (ns,e)→∀ v,e=some v→v≠[]∧v.length≤1000:=by
  have:∀ (k:Nat) (n:Bs) (ns:List Bs) (v:Bs),ajq d k n=some (ns,some v)→v≠[]∧v.length≤1000:=by
   intro k
   induction k with
   | zero=>
    intro n ns v hc
    dsimp only [ajq] at hc
    split at hc<;>cases hc
   | succ k ih=>
    intro n ns v hc
    dsimp only [ajq] at hc
    split at hc
    ·cases hc
    ·rename_i w hw
     split at hc
     ·refine ajl (Option.map_eq_some_iff.mp hc) fun r hr hr2=>?_
      obtain ⟨r1,r2⟩:=r
      cases hr2
      exact ih _ _ _ hr
     ·cases hc
      exact akY hv hw
  intro ns e hce v hev
  subst hev
  exact this _ _ _ _ hce
 refine aXB rfl ?_
 rw [aqb]
 refine aji fun K kn kr kb kc=>?_
 wide_open with [hlen]
 refine kn _ ?_
 refine aji fun K kn kr kb kc=>?_
 wide_open with []
 refine kn _ ?_
 refine aji fun K kn kr kb kc=>?_
 wide_open with []
 refine kn _ ?_
 refine aji fun K kn kr kb kc=>?_
 refine ⟨7,?_⟩
 refine aXq h hn hv 5 0 _ [] .unb (by walk_at "O") rfl hcl (by simp) (fun ns e hce i' x'=>kn _ ?_) (fun hce loc acc'=>?_)
 ·rw [hd] at hce
  have hcv':=hcv
  wide_open with [aJr,List.nil_append]
  cases e with
  | none=>
   simp only [aqO,Option.map_none,Option.getD_none]
   wide_open with [List.length_cons,List.length_nil]
   exact ⟨axs _ ns none,akd.app _ _,by rw [aqo];exact hq _ _ hce⟩
  | some v=>
   obtain ⟨v1,v2⟩:=hcv _ _ hce v rfl
   simp only [aqO,Option.map_some,Option.getD_some]
   wide_open with [v1,show v.length≤1099511627776 by walk_at "O",aVT]
   exact ⟨axs _ ns (some v),akd.app _ _,by rw [aqo];exact hq _ _ hce⟩
 ·rw [hd] at hce
  exact ⟨akd.app _ _,by rw [aqo];exact he hce⟩
theorem bZF {a b:MV}{x:List MV}{f:MV→M Unit}{g:MV→M Unit}{st:MSt}{QU:Unit→MSt→Prop}:azm (fun xs=>gE xs 2 ((ajg f (ajg g aqj)) xs)) (.tup [a,b]) st QU E=f a st (fun _ st1=>g b st1 QU E) E:=by
 rfl
theorem aKa {name:Bs} (h:o[1]? = some (.dict (emb d))) (hn:(aj7 d).Nodup) (hv:okV d) (hb:name.length≤900)
  (hq:∀ ns v,ajq d 5 name=some (ns,some v)→Q (.bytes v) ⟨l,o⟩) (hk:∀ ns,ajq d 5 name=some (ns,none)→E aVD ⟨l,o⟩) (he:ajq d 5 name=none→E akG ⟨l,o⟩):azq [.refs 1,.bytes name] ⟨l,o⟩ Q E:=by
 refine aXB rfl ?_
 rw [aqb]
 refine aji fun K kn kr kb kc=>?_
 wide_open with []
 refine aZj h hn hv hb (fun ns e hce=>?_) (fun hce=>?_)
 ·cases e with
  | none=>
   simp only [aqO,Option.map_none,Option.getD_none]
   wide_open with []
   refine kn _ ?_
   wide_open with [aq3,ajE,List.length_cons,List.length_nil]
   exact hk ns hce
  | some v=>
   simp only [aqO,Option.map_some,Option.getD_some]
   wide_open with []
   refine kn _ ?_
   wide_open with [aq3,ajE]
   exact hq ns v hce
 ·exact ⟨akd.same _,by rw [ake];exact he hce⟩
theorem bKE {a b:MV}:lAt [a,b] (-1)=some b:=rfl
theorem bq3 {name other:Bs} (h:o[1]? = some (.dict (emb d))) (hn:(aj7 d).Nodup) (hv:okV d) (hl:d.length≤1000) (hb:name.length≤900) (ho:other.length≤900)
  (hq:∀ o',Upd o o' (aJh d name (akb++other))→Q .none ⟨l,o'⟩) (he:ajq d 5 name≠none):ajW [.refs 1,.bytes name,.bytes other] ⟨l,o⟩ Q E:=by
 refine aXB rfl ?_
 rw [aqb]
 refine aji fun K kn kr kb kc=>?_
 wide_open with []
 refine aZj h hn hv hb (fun ns e hce=>?_) (fun hce=>absurd hce he)
 have hu:aqO e≠.unb:=by cases e<;>simp [aqO]
 wide_open with [bKE,exists_eq_left',List.length_cons,List.length_nil,hu]
 refine kn _ ?_
 have hlen:([114,101,102,58,32]:Bs).length + other.length≤16777216:=by show 5 + other.length≤_;walk_at "O"
 wide_open with [hlen,bZv h hn hl]
 exact ⟨aJq,by rw [aJl];exact hq _ (aZ5 h _)⟩
end
end Mine
namespace Mine
open PySem PySem.W
noncomputable def azp:List Bs:=[[72,69,65,68],[114,101,102,115,47,104,101,97,100,115,47,97],[114,101,102,115,47,104,101,97,100,115,47,98],[114,101,102,115,47,104,101,97,100,115,47,97,46,98,47,99],[114,101,102,115,47,116,97,103,115,47,118,49],[114,101,102,115,47,116,97,103,115,47,64,120],[114,101,102,115,47,115,116,97,115,104],[114,101,102,115,47,114,101,109,111,116,101,115,47,111,47,109],[114,101,102,115,47,104,101,97,100,115,47,100]]
noncomputable def azW:List Bs:=[[114,101,102,115,47,104,101,97,100,115,47],[114,101,102,115,47],[],[114,101,102,115,47,116,97,103,115,47,120],[114,101,102,115,47,110]]
noncomputable def azQ:List Bs:=[[97],[120,45,49],[47],[47],[47,98],[46],[46,108,111,99,107],[108,111,99,107],[64],[123],[64,123],[46,46],[195,169],[45],[93],[125],[98],[47,99],[46,100],[47,46],[92],[32],[126],[94],[58],[63],[42],[91],[127]]
noncomputable def ajM:List Bs:=[(List.replicate 40 [49]).flatten,(List.replicate 20 [97,98]).flatten,(List.replicate 20 [70,48]).flatten,(List.replicate 40 [48]).flatten,(List.replicate 64 [99]).flatten,[114,101,102,58,32,114,101,102,115,47,104,101,97,100,115,47,97],[114,101,102,58,32,72,69,65,68],(List.replicate 39 [49]).flatten,[103]++(List.replicate 39 [49]).flatten,[],[114,101,102,58,72,69,65,68]]
section
variable {l:List MV}{o:List MO}{d:D}{st:MSt}{Q:MV→MSt→Prop}{E:Value→MSt→Prop}
theorem aXp {bs:List Bs} (hl:Nat.ble bs.length 1000=true) (hc:∀ n,MV.cls n (bs.map MV.bytes)):fnM 0 0 (aju (aqi (ret (bs.map MV.bytes)))) [] ⟨l,o⟩ Q E=Q (.list (bs.map MV.bytes)) ⟨l,o⟩:=by
 have h1:(bs.map MV.bytes).length≤1000:=by rw [List.length_map];exact Nat.le_of_ble_eq_true hl
 wide_open with [h1,hc]
theorem bq5:aqw [] ⟨l,o⟩ Q E=Q (.list (azp.map MV.bytes)) ⟨l,o⟩:=aXp (bs:=azp) (by decide) (fun n=>ak7 n _)
theorem bkc:aze [] ⟨l,o⟩ Q E=Q (.list (azW.map MV.bytes)) ⟨l,o⟩:=aXp (bs:=azW) (by decide) (fun n=>ak7 n _)
theorem aZi:ajJ [] ⟨l,o⟩ Q E=Q (.list (azQ.map MV.bytes)) ⟨l,o⟩:=aXp (bs:=azQ) (by decide) (fun n=>ak7 n _)
theorem aXi {a:Bs}{n:Nat} (h:(!decide (a=[]) && Nat.ble 2 n && Nat.ble n 1000 && Nat.ble a.length 1000)=true):aJo (.bytes a) (.int (n:Int)) st Q E=Q (.bytes (List.replicate n a).flatten) st:=by
 simp only [Bool.and_eq_true,Bool.not_eq_true',decide_eq_false_iff_not] at h
 have h1:=Nat.le_of_ble_eq_true h.1.1.2
 have h2:=Nat.le_of_ble_eq_true h.1.2
 have h3:=Nat.le_of_ble_eq_true h.2
 rw [bxz,Int.toNat_natCast]
 exact propext ⟨fun z=>z.2,fun z=>⟨⟨h.1.1.1,by walk_at "O",by walk_at "O",h3⟩,z⟩⟩
theorem aZh:ajB [] ⟨l,o⟩ Q E=Q (.list (ajM.map MV.bytes)) ⟨l,o⟩:=by
 have m1:∀ {st:MSt}{Q:MV→MSt→Prop}{E:Value→MSt→Prop},aJo (.bytes [49]) (.int 40) st Q E=Q (.bytes (List.replicate 40 [49]).flatten) st:=fun {st Q E}=>aXi (n:=40) (by decide)
 have m2:∀ {st:MSt}{Q:MV→MSt→Prop}{E:Value→MSt→Prop},aJo (.bytes [97,98]) (.int 20) st Q E=Q (.bytes (List.replicate 20 [97,98]).flatten) st:=fun {st Q E}=>aXi (n:=20) (by decide)
 have m3:∀ {st:MSt}{Q:MV→MSt→Prop}{E:Value→MSt→Prop},aJo (.bytes [70,48]) (.int 20) st Q E=Q (.bytes (List.replicate 20 [70,48]).flatten) st:=fun {st Q E}=>aXi (n:=20) (by decide)
 have m4:∀ {st:MSt}{Q:MV→MSt→Prop}{E:Value→MSt→Prop},aJo (.bytes [48]) (.int 40) st Q E=Q (.bytes (List.replicate 40 [48]).flatten) st:=fun {st Q E}=>aXi (n:=40) (by decide)
 have m5:∀ {st:MSt}{Q:MV→MSt→Prop}{E:Value→MSt→Prop},aJo (.bytes [99]) (.int 64) st Q E=Q (.bytes (List.replicate 64 [99]).flatten) st:=fun {st Q E}=>aXi (n:=64) (by decide)
 have m6:∀ {st:MSt}{Q:MV→MSt→Prop}{E:Value→MSt→Prop},aJo (.bytes [49]) (.int 39) st Q E=Q (.bytes (List.replicate 39 [49]).flatten) st:=fun {st Q E}=>aXi (n:=39) (by decide)
 have a1:∀ {st:MSt}{Q:MV→MSt→Prop}{E:Value→MSt→Prop},akc (.bytes [103]) (.bytes (List.replicate 39 [49]).flatten) st Q E=Q (.bytes ([103]++(List.replicate 39 [49]).flatten)) st:=fun {st Q E}=>by
  rw [bxY]
  exact propext ⟨fun z=>z.2,fun z=>⟨by decide,z⟩⟩
 have hc:=ak7 o.length ajM
 unfold ajB fnM ax4
 simp only [gE0,aqb,aQl,aK4,List.append_nil,bKZ,bKK,akd.same,ake,true_and,↓m1,↓m2,↓m3,↓m4,↓m5,↓m6,↓a1]
 exact propext ⟨fun z=>z.2,fun z=>⟨hc,z⟩⟩
theorem akp {L:List Bs}{i:Nat} (h:i < L.length):lAt (L.map MV.bytes) (i:Int)=some (.bytes (L.getD i [])):=by
 unfold lAt seqIndex?
 rw [if_neg (show ¬ (i:Int) < 0 by walk_at "O"),List.length_map]
 have h2:(decide ((0:Int)≤i) && decide ((i:Int) < L.length))=true:=by
  rw [Bool.and_eq_true,decide_eq_true_eq,decide_eq_true_eq];walk_at "O"
 rw [if_pos h2]
 show (L.map MV.bytes)[((i:Int)).toNat]? = _
 rw [Int.toNat_natCast,List.getElem?_map,List.getD_eq_getElem?_getD,List.getElem?_eq_getElem h];rfl
noncomputable abbrev bZ6:M MF:=(ajc (axO (ajk aXv (getL 2) (aj0 (getL 1) (ret [])) ako))
 (ajc (aqc (ajk ax9 (getL 0) (aj0 (getL 1) (ret [])) axe) 4)
 (ajc (ifM (ajh (getL 4) (ret MV.none) azu aj3) (aju (aka (aj0 (bnd (getL 2) ajO) (aj0 (ret MV.none) (ret []))))) (ret MF.next))
 (ajc (ifM (ajh (aje (getL 4) (ret MV.none) (ret (MV.int 5))) (ret (MV.bytes [114,101,102,58,32])) mNe aj3) (aju (aka (aj0 (bnd (getL 2) ajO) (aj0 (getL 4) (ret []))))) (ret MF.next))
 (aqc (aje (getL 4) (ret (MV.int 5)) (ret MV.none)) 1)))))
theorem bxx {b:Bs}:mNe (.bytes b) (.bytes [114,101,102,58,32]) st Q E=Q (.bool (!decide (b=akb))) st:=bQm
theorem aKm (hn:(aj7 d).Nodup) (hv:okV d) {QF:MF→MSt→Prop}:∀ (xs:List MV) (n:Bs) (acc:List MV) (x3 x4:MV),(∀ x∈xs,x≠.unb)→acc.length + xs.length≤50→n.length≤1000→
  (∀ n' acc' x3' x4',n'.length≤1000→acc'.length≤50→(∀ ns e,ajq d 0 n'=some (ns,e)→∀ ns0 e0,ajq d xs.length n=some (ns0,e0)→acc'++ns.map MV.bytes=acc++ns0.map MV.bytes∧e=e0)→(ajq d xs.length n=none↔ajq d 0 n'=none)→QF .next ⟨[.dict (emb d),.bytes n',.obj o.length,x3',x4'],o++[.list acc']⟩)→
  (∀ ns e,ajq d xs.length n=some (ns,e)→∀ loc,QF (.ret (.tup [.list (acc++ns.map MV.bytes),aqO e])) ⟨loc,o++[.dead]⟩)→
  aqu xs (ajD 3) bZ6 ⟨[.dict (emb d),.bytes n,.obj o.length,x3,x4],o++[.list acc]⟩ QF E
 | [],n,acc,x3,x4,hx,ha,hnl,hq,hr=>by
  rw [aVo]
  exact hq n acc x3 x4 hnl (by walk_at "O") (fun ns e h1 ns0 e0 h2=>by rw [List.length_nil,h1] at h2;cases h2;exact ⟨rfl,rfl⟩) Iff.rfl
 | x::xs,n,acc,x3,x4,hx,ha,hnl,hq,hr=>by
  rw [List.length_cons] at ha hq hr
  refine aJg fun K k1 k2 k3 k4=>?_
  have hxu:=hx x (.head _)
  refine bX8 hxu ?_
  show bZ6 ⟨[.dict (emb d),.bytes n,.obj o.length,x,x4],o++[.list acc]⟩ K E
  refine aji fun K kn kr kb kc=>?_
  wide_open with [aZD,aZO (show acc.length≤10000 by walk_at "O")]
  refine kn _ ?_
  refine aji fun K kn kr kb kc=>?_
  wide_open with [dg2 (bzL (d:=d)) hn,isD (bzL (d:=d)) hn,aqA]
  refine kn _ ?_
  cases hg:ajp d n with
  | none=>
   have hch:ajq d (xs.length + 1) n=some ([n],none):=by
    show (match ajp d n with | none=>_ | some v=>_)=_
    rw [hg]
   refine aji fun K kn kr kb kc=>?_
   wide_open with [aq3,ajE,aJr,List.length_cons,List.length_nil]
   refine kr _ _ (k4 _ _ ?_)
   exact hr _ _ hch _
  | some v=>
   obtain ⟨v1,v2⟩:=akY hv hg
   refine aji fun K kn kr kb kc=>?_
   wide_open with [aq3,ajE]
   refine kn _ ?_
   by_cases hrf:v.take 5=akb
   ·have hch:ajq d (xs.length + 1) n=(ajq d xs.length (v.drop 5)).map (fun r=>(n::r.1,r.2)):=by
     show (match ajp d n with | none=>_ | some v=>_)=_
     rw [hg]
     exact if_pos hrf
    refine aji fun K kn kr kb kc=>?_
    wide_open with [avI,show v.length≤16777216 by walk_at "O",bxx,decide_eq_true hrf]
    refine kn _ ?_
    wide_open with [aKE,show v.length≤16777216 by walk_at "O"]
    refine k1 _ ?_
    refine aKm hn hv xs (v.drop 5) (acc++[.bytes n]) _ _ (fun y hy=>hx y (.tail _ hy)) (by rw [List.length_append,List.length_singleton];walk_at "O") (by rw [List.length_drop];walk_at "O") (fun n' acc' x3' x4' h1 h2 h3 h4=>?_) (fun ns e hce loc=>?_)
    ·refine hq n' acc' x3' x4' h1 h2 (fun ns e h5 ns0 e0 h6=>?_) ?_
     ·rw [hch] at h6
      refine ajl (Option.map_eq_some_iff.mp h6) fun r hr1 hr2=>?_
      obtain ⟨r1,r2⟩:=r
      cases hr2
      have:=h3 ns e h5 r1 r2 hr1
      rw [this.1,this.2,List.append_assoc]
      exact ⟨rfl,rfl⟩
     ·rw [hch,Option.map_eq_none_iff];exact h4
    ·have:=hr (n::ns) e (by rw [hch,hce];rfl) loc
     rw [List.append_assoc]
     exact this
   ·have hch:ajq d (xs.length + 1) n=some ([n],some v):=by
     show (match ajp d n with | none=>_ | some v=>_)=_
     rw [hg]
     exact if_neg hrf
    refine aji fun K kn kr kb kc=>?_
    wide_open with [avI,show v.length≤16777216 by walk_at "O",bxx,decide_eq_false hrf,aJr,List.length_cons,List.length_nil]
    refine kr _ _ (k4 _ _ ?_)
    exact hr _ _ hch _
theorem bjZ {name:Bs} (hn:(aj7 d).Nodup) (hv:okV d) (hb:name.length≤1000) (hq:∀ ns e,ajq d 5 name=some (ns,e)→Q (.tup [.list (ns.map MV.bytes),aqO e]) ⟨l,o⟩) (he:ajq d 5 name=none→Q (.tup [.none,.none]) ⟨l,o⟩):aqt [.dict (emb d),.bytes name] ⟨l,o⟩ Q E:=by
 have hr5:∀ (QL:List MV→MSt→Prop) (E:Value→MSt→Prop) st,QL [.int 0,.int 1,.int 2,.int 3,.int 4] st→axB [.int 5] st QL E:=fun QL E st q=>⟨by decide,by decide,q⟩
 refine aXB rfl ?_
 rw [aqb]
 refine aji fun K kn kr kb kc=>?_
 wide_open with []
 refine kn _ ?_
 refine aji fun K kn kr kb kc=>?_
 simp only [aQl,aK4]
 refine hr5 _ _ _ ?_
 refine aKm hn hv [.int 0,.int 1,.int 2,.int 3,.int 4] name [] .unb .unb (by simp) (by simp) hb (fun n' acc' x3' x4' h1 h2 h3 h4=>kn _ ?_) (fun ns e hce loc=>kr _ _ ?_)
 ·refine aji fun K kn kr kb kc=>?_
  wide_open with [aZD,aZO (show acc'.length≤10000 by walk_at "O")]
  refine kn _ ?_
  wide_open with [dg2 (bzL (d:=d)) hn,isD (bzL (d:=d)) hn,bKW,aqA]
  cases hg:ajp d n' with
  | none=>
   have hc0:ajq d 0 n'=some ([n'],none):=by dsimp only [ajq];rw [hg]
   wide_open with [aq3,ajE,aJr,List.length_cons,List.length_nil]
   cases hc5:ajq d 5 name with
   | none=>have:=h4.mp hc5;rw [hc0] at this;cases this
   | some r=>
    obtain ⟨ns0,e0⟩:=r
    have:=h3 _ _ hc0 _ _ hc5
    rw [List.nil_append] at this
    have h5:=hq _ _ hc5
    rw [← this.1,← this.2] at h5
    refine ⟨?_,akd.app _ _,by rw [aqo];exact h5⟩
    rw [show acc'++[MV.bytes n']=ns0.map MV.bytes from this.1]
    exact axs _ ns0 none
  | some v=>
   have hc0:ajq d 0 n'=none:=by dsimp only [ajq];rw [hg]
   wide_open with [aq3,ajE,List.length_cons,List.length_nil]
   refine ⟨⟨trivial,trivial,trivial⟩,akd.app _ _,by rw [aqo];exact he (h4.mpr hc0)⟩
 ·rw [List.nil_append]
  exact ⟨axs _ ns e,akd.app _ _,by rw [aqo];exact hq _ _ hce⟩
end
end Mine
namespace Mine
open PySem PySem.W
noncomputable def ak5 (d:D) (name:Bs) (v:Option Bs):D:=match v with
 | none=>aQ5 d name
 | some x=>aJh (aQ5 d name) name x
theorem bqU (d:D) (name x:Bs) (v:Option Bs):ajp (ak5 d name v) x=if x=name then v else ajp d x:=by
 cases v with
 | none=>exact aJV d name x
 | some y=>
  show ajp (aJh (aQ5 d name) name y) x=_
  rw [ak6,aJV]
  split<;>rfl
theorem aXh {d:D} (h:(aj7 d).Nodup) (name:Bs) (v:Option Bs):(aj7 (ak5 d name v)).Nodup:=by
 cases v with
 | none=>exact ak2 h name
 | some y=>exact azh (ak2 h name) name y
theorem bqo {d:D}{name:Bs}{v:Option Bs}{e:Bs×Bs} (h:e∈ak5 d name v):(e.1=name∧v=some e.2)∨e∈d:=by
 cases v with
 | none=>exact .inr (aVc h)
 | some y=>
  rcases bkl h with rfl | h
  ·exact .inl ⟨rfl,rfl⟩
  ·exact .inr (aVc h)
theorem bqz (d:D) (name:Bs) (v:Option Bs):(ak5 d name v).length≤d.length + 1:=by
 cases v with
 | none=>exact Nat.le_trans (avc d name) (Nat.le_succ _)
 | some y=>exact Nat.le_trans (axr _ _ _) (Nat.succ_le_succ (avc d name))
theorem bkT {d:D}{k v:Bs} (h:k∉aj7 d):aJh d k v=d++[(k,v)]:=by
 dsimp only [aJh]
 rw [if_neg]
 intro hany
 refine ajl (List.any_eq_true.mp hany) fun e he hk=>?_
 exact h (List.mem_map.mpr ⟨e,he,of_decide_eq_true hk⟩)
section
variable {l:List MV}{o:List MO}{d:D}{st:MSt}{Q:MV→MSt→Prop}{E:Value→MSt→Prop}
theorem bxD {k v:Bs} (hn:(aj7 d).Nodup) (h:ajp d k=some v):ajG (.dict (emb d)) (.bytes k) ⟨l,o⟩ Q E=Q (.bytes v) ⟨l,o⟩:=by
 show (∃ es c,ajZ ⟨l,o⟩ (.dict (emb d))=some es∧(ajn es).Nodup∧aqr es k=some c∧Q c ⟨l,o⟩)=_
 refine propext ⟨fun ⟨es,c,h1,h2,h3,h4⟩=>?_,fun q=>⟨_,_,rfl,by rw [ajC];exact hn,by rw [akr,h];rfl,q⟩⟩
 cases h1
 rw [akr,h] at h3
 cases h3
 exact h4
theorem dsN {acc:D}{k v:Bs} (hn:(aj7 acc).Nodup) (hl:acc.length≤1000) {QU:Unit→MSt→Prop}:aQX (.obj o.length) (.bytes k) (.bytes v) ⟨l,o++[.dict (emb acc)]⟩ QU E=QU () ⟨l,o++[.dict (emb (aJh acc k v))]⟩:=by
 rw [bxO]
 simp only [akx,Option.some.injEq,MO.dict.injEq,exists_eq_left',ajC,hn,avH,hl,true_and,bz5,avN]
theorem av8 {acc:Es}:ajO (.obj o.length) ⟨l,o++[.dict acc]⟩ Q E=Q (.dict acc) ⟨l,o++[.dead]⟩:=by
 dsimp only [ajO]
 simp only [akx,avN]
noncomputable abbrev bxQ:M MF:=(ifM (ajh (getL 4) (getL 1) mNe aj3) (az9 (ajs (getL 0) (getL 4) ajG) (getL 3) (getL 4) aQX) (ret MF.next))
theorem aKl {name:Bs}{x2:MV} (hn:(aj7 d).Nodup) (hl:d.length≤1000) {QF:MF→MSt→Prop}:∀ (r p:D) (x4:MV),d=p++r→
  (∀ x4',QF .next ⟨[.dict (emb d),.bytes name,x2,.obj o.length,x4'],o++[.dict (emb (aQ5 d name))]⟩)→
  aqu ((aj7 r).map MV.bytes) (ajD 4) bxQ ⟨[.dict (emb d),.bytes name,x2,.obj o.length,x4],o++[.dict (emb (aQ5 p name))]⟩ QF E
 | [],p,x4,hd,hq=>by
  rw [List.append_nil] at hd
  subst hd
  exact hq x4
 | e::r,p,x4,hd,hq=>by
  show aqu (.bytes e.1::(aj7 r).map MV.bytes) (ajD 4) bxQ _ QF E
  refine aJg fun K k1 k2 k3 k4=>?_
  walk_at "T"
  have hmem:e∈d:=by rw [hd];simp
  have hg:ajp d e.1=some e.2:=aJU hn hmem
  have hp:(aj7 p).Nodup:=by rw [hd] at hn;dsimp only [aj7] at hn;rw [List.map_append] at hn;exact (List.nodup_append.mp hn).1
  have hpl:(aQ5 p name).length≤1000:=by
   have:=avc p name
   rw [hd,List.length_append] at hl
   walk_at "O"
  have hnew:e.1∉aj7 p:=by
   rw [hd] at hn;dsimp only [aj7] at hn
   rw [List.map_append] at hn
   intro hm
   exact (List.nodup_append.mp hn).2.2 _ hm _ (List.mem_map.mpr ⟨e,.head _,rfl⟩) rfl
  have hnext:aQ5 (p++[e]) name=if e.1=name then aQ5 p name else aJh (aQ5 p name) e.1 e.2:=by
   dsimp only [aQ5]
   rw [List.filter_append]
   split
   ·rename_i h;simp [List.filter_cons,h]
   ·rename_i h
    have hnn:e.1∉aj7 (p.filter fun e=>decide (e.1≠name)):=fun hm=>by
     refine ajl (List.mem_map.mp hm) fun x hx hk=>?_
     exact hnew (List.mem_map.mpr ⟨x,(List.mem_filter.mp hx).1,hk⟩)
    rw [bkT hnn]
    simp [List.filter_cons,h]
  have go:=aKl (name:=name) (x2:=x2) hn hl r (p++[e]) (.bytes e.1) (by rw [hd];simp) hq
  rw [hnext] at go
  wide_open with []
  by_cases hk:e.1=name
  ·rw [if_pos hk] at go
   wide_open with [decide_eq_true hk]
   exact k1 _ go
  ·rw [if_neg hk] at go
   wide_open with [decide_eq_false hk,bxD hn hg,dsN (ak2 hp name) hpl]
   exact k1 _ go
theorem aV1 {name:Bs}{v:Option Bs} (hn:(aj7 d).Nodup) (hl:d.length≤900) (hq:Q (.dict (emb (ak5 d name v))) ⟨l,o⟩):aqR [.dict (emb d),.bytes name,aqO v] ⟨l,o⟩ Q E:=by
 have hu:aqO v≠.unb:=by cases v<;>simp [aqO]
 refine aXB rfl ?_
 rw [aqb]
 refine aji fun K kn kr kb kc=>?_
 wide_open with []
 refine kn _ ?_
 refine aji fun K kn kr kb kc=>?_
 wide_open with [ajC,hn]
 refine aKl hn (by walk_at "O") d [] .unb rfl (fun x4'=>kn _ ?_)
 refine aji fun K kn kr kb kc=>?_
 have fin:∀ (x4:MV) (acc:D),acc=ak5 d name v→aju (bnd (getL 3) ajO) ⟨[.dict (emb d),.bytes name,aqO v,.obj o.length,x4],o++[.dict (emb acc)]⟩ (fun f st'=>f.val.cl o.length∧akd o st'.objs∧Q f.val ⟨l,st'.objs.take o.length⟩) (fun c st'=>akd o st'.objs∧E c ⟨l,st'.objs.take o.length⟩):=fun x4 acc ha=>by
  wide_open with [av8]
  subst ha
  exact ⟨axE _ _,akd.app _ _,by rw [aqo];exact hq⟩
 have hdl:(aQ5 d name).length≤1000:=by have:=avc d name;walk_at "O"
 cases v with
 | none=>
  wide_open with [aq3,ajE]
  exact kn _ (fin _ _ rfl)
 | some x=>
  dsimp only [aqO,Option.map_some,Option.getD_some]
  wide_open with [aq3,ajE,dsN (ak2 hn name) hdl]
  exact kn _ (fin _ _ rfl)
theorem bvn {base:Bs} (hn:(aj7 d).Nodup) (hl:d.length≤900) (hb:base.length≤900) (hk:∀ k∈aj7 d,k.length≤1000) (hq:Q (.list (((aj7 d).filter (fun k=>decide (k.take base.length=base))).map fun k=>MV.bytes (k.drop base.length))) ⟨l,o⟩):az0 [.dict (emb d),.bytes base] ⟨l,o⟩ Q E:=by
 have loop:∀ (ks:List Bs) (x0:MV) (QL:List MV→MSt→Prop) (E:Value→MSt→Prop),(∀ k∈ks,k.length≤1000)→
   (∀ x0',QL ((ks.filter (fun k=>decide (k.take base.length=base))).map fun k=>MV.bytes (k.drop base.length)) ⟨[x0',.bytes base],o⟩)→
   axP (ks.map MV.bytes) (ajh (aje (getL 0) (ret MV.none) (bnd (aj0 (getL 1) (ret [])) aQL)) (getL 1) mEq aj3) (aje (getL 0) (bnd (aj0 (getL 1) (ret [])) aQL) (ret MV.none)) ⟨[x0,.bytes base],o⟩ QL E:=by
  intro ks
  induction ks with
  | nil=>intro x0 QL E _ h;exact h x0
  | cons k ks ih=>
   intro x0 QL E hk h
   have hkl:=hk k (.head _)
   rw [List.map_cons,aQY]
   wide_open with [show base.length≤1099511627776 by walk_at "O",show k.length≤16777216 by walk_at "O",aks,akt]
   rw [List.filter_cons] at h
   cases hd:decide (k.take base.length=base) with
   | true=>
    rw [hd,if_pos rfl] at h
    wide_open with []
    exact ih _ _ _ (fun k' hk'=>hk k' (.tail _ hk')) h
   | false=>
    rw [hd,if_neg (by decide)] at h
    wide_open with []
    exact ih _ _ _ (fun k' hk'=>hk k' (.tail _ hk')) h
 have h2:((aj7 d).map MV.bytes).length≤2000:=by rw [List.length_map,List.length_map];walk_at "O"
 unfold az0 axJ
 refine aXB rfl ?_
 rw [aqb]
 unfold ax7 bqM aQZ
 wide_open with [ajC,hn,h2,List.map_cons,List.map_nil,List.mem_singleton,forall_eq]
 refine loop _ _ _ _ hk (fun x0'=>⟨rfl,?_,hq⟩)
 have:∀ ks:List Bs,MV.cls o.length (ks.map fun k=>MV.bytes (k.drop base.length)):=by
  intro ks
  induction ks with
  | nil=>exact trivial
  | cons k ks ih=>rw [List.map_cons];exact ⟨trivial,ih⟩
 exact this _
end
end Mine
namespace Mine
open PySem PySem.W
theorem bvO {k:Nat} (h:k≤8):k=6∨k=7∨k=8∨(k=4∨k=5)∨k=3∨k=0∨k=1∨k=2:=
 (by decide:∀ k:Fin 9,k.1=6∨k.1=7∨k.1=8∨(k.1=4∨k.1=5)∨k.1=3∨k.1=0∨k.1=1∨k.1=2) ⟨k,Nat.lt_succ_of_le h⟩
theorem k012 {k:Nat} (h:k=0∨k=1∨k=2):¬ k=6∧¬ k=7∧¬ k=8∧¬ (k=4∨k=5)∧¬ k=3:=by walk_at "O"
theorem k1n2 {k:Nat}{p q:Prop} (h:k=2∧p):¬ (k=1∧q):=fun z=>absurd (h.1.symm.trans z.1) (by decide)
theorem ki {k n:Nat} (h:¬ k=n):decide ((k:Int)=(n:Int))=false:=decide_eq_false fun z=>h (Int.ofNat.inj z)
noncomputable def vin (v:Bs):Bool:=(ajM.take 7).contains v
noncomputable def bZt (d:D) (kind:Nat) (name value:Bs) (old:Option Bs):MV×D:=
 if vin value=false then (.str "value",d)
 else if kind=1∧other d name old=true then (.bool false,d)
 else if kind=2∧name∈aj7 d then (.bool false,d)
 else if ajN name=false then (.str "name",d)
 else (if kind=0 then .none else .bool true,ak5 d name (some value))
noncomputable def axd (d:D) (kind:Nat) (name value:Bs) (old:Option Bs) (oth:Bs):MV×D:=
 if kind=6 then (match ajq d 5 name with | none=>(.str "loop",d) | some (ns,e)=>(.tup [.list (ns.map MV.bytes),aqO e],d))
 else if kind=7 then (match ajq d 5 name with | none=>(.str "loop",d) | some (_,none)=>(.str "none",d) | some (_,some v)=>(.bytes v,d))
 else if kind=8 then (.bool (decide (name∈aj7 d)),d)
 else if kind=4∨kind=5 then (.none,ak5 d name (some (akb++oth)))
 else if kind=3 then (if other d name old then (.bool false,d) else (.bool true,ak5 d name none))
 else bZt d kind name value old
section
variable {d:D}{kind:Nat}{name value oth:Bs}{old:Option Bs}{ns:List Bs}
theorem bJ8 (h:ajq d 5 name=none):axd d 6 name value old oth=(.str "loop",d):=by show (match ajq d 5 name with | none=>_ | some (ns,e)=>_)=_;rw [h]
theorem bKz {e:Option Bs} (h:ajq d 5 name=some (ns,e)):axd d 6 name value old oth=(.tup [.list (ns.map MV.bytes),aqO e],d):=by show (match ajq d 5 name with | none=>_ | some (ns,e)=>_)=_;rw [h]
theorem bJ7 (h:ajq d 5 name=none):axd d 7 name value old oth=(.str "loop",d):=by show (match ajq d 5 name with | none=>_ | some (_,none)=>_ | some (_,some v)=>_)=_;rw [h]
theorem bJ6 (h:ajq d 5 name=some (ns,none)):axd d 7 name value old oth=(.str "none",d):=by show (match ajq d 5 name with | none=>_ | some (_,none)=>_ | some (_,some v)=>_)=_;rw [h]
theorem bJ5 {v:Bs} (h:ajq d 5 name=some (ns,some v)):axd d 7 name value old oth=(.bytes v,d):=by show (match ajq d 5 name with | none=>_ | some (_,none)=>_ | some (_,some v)=>_)=_;rw [h]
theorem bJ9 (h:kind=4∨kind=5):axd d kind name value old oth=(.none,ak5 d name (some (akb++oth))):=by rcases h with rfl | rfl<;>rfl
theorem bJa (h:other d name old=true):axd d 3 name value old oth=(.bool false,d):=by show (if other d name old=true then _ else _)=_;exact if_pos h
theorem bZu (h:other d name old=false):axd d 3 name value old oth=(.bool true,ak5 d name none):=by show (if other d name old=true then _ else _)=_;exact if_neg (by rw [h];decide)
theorem bz8 (h:kind=0∨kind=1∨kind=2):axd d kind name value old oth=bZt d kind name value old:=by rcases h with rfl | rfl | rfl<;>rfl
theorem tne {b:Bool} (h:b=true):¬ b=false:=by rw [h];decide
theorem aQV (h:kind=0∨kind=1∨kind=2) (z:vin value=false):axd d kind name value old oth=(.str "value",d):=(bz8 h).trans (if_pos z)
theorem bQV (z:vin value=true) (z1:kind=1∧other d name old=true):axd d kind name value old oth=(.bool false,d):=(bz8 (.inr (.inl z1.1))).trans ((if_neg (tne z)).trans (if_pos z1))
theorem bQU (z:vin value=true) (z1:kind=2∧name∈aj7 d):axd d kind name value old oth=(.bool false,d):=(bz8 (.inr (.inr z1.1))).trans ((if_neg (tne z)).trans ((if_neg (k1n2 z1)).trans (if_pos z1)))
theorem bJD (h:kind=0∨kind=1∨kind=2) (z:vin value=true) (z1:¬ (kind=1∧other d name old=true)) (z2:¬ (kind=2∧name∈aj7 d)):axd d kind name value old oth=if ajN name=false then (.str "name",d) else (if kind=0 then .none else .bool true,ak5 d name (some value)):=(bz8 h).trans ((if_neg (tne z)).trans ((if_neg z1).trans (if_neg z2)))
end
theorem aJY (b:Bs):∀ L:List Bs,akw b (L.map MV.bytes)=some (L.contains b)
 | []=>rfl
 | x::L=>by
  rw [List.map_cons]
  show (akw b (L.map MV.bytes)).map (fun z=>(x == b) || z)=_
  rw [aJY b L,List.contains_cons]
  have:(x == b)=(b == x):=by
   rw [azN,azN]
   by_cases h:x=b
   ·rw [decide_eq_true h,decide_eq_true h.symm]
   ·rw [decide_eq_false h,decide_eq_false (fun z=>h z.symm)]
  rw [this];rfl
section
variable {l:List MV}{o:List MO}{d:D}{st:MSt}{Q:MV→MSt→Prop}{E:Value→MSt→Prop}
theorem bvw {b:Bs}{L:List Bs}:ax6 (.bytes b) (.list (L.map MV.bytes)) st Q E=Q (.bool (!L.contains b)) st:=by
 have h:inV st (.bytes b) (.list (L.map MV.bytes))=some (L.contains b):=aJY b L
 exact aV7 h
theorem cut7:axx (ajM.map MV.bytes) none (some 7)=(ajM.take 7).map MV.bytes:=by
 have:=aks (ajM.map MV.bytes) 7
 rw [← List.map_take] at this
 exact this
theorem bKX {k:Bs} (hn:(aj7 d).Nodup):mIn (.bytes k) (.dict (emb d)) st Q E=Q (.bool (decide (k∈aj7 d))) st:=by
 have e:inV st (.bytes k) (.dict (emb d))=some (decide (k∈aj7 d)):=by
  show (if (ajn (emb d)).Nodup then some (aqr (emb d) k).isSome else none)=_
  rw [ajC,if_pos hn,akr,← azx]
  cases ajp d k<;>rfl
 exact bqJ e
theorem cls2 {n:Nat}{r:MV}{d':D} (h:r.cl n):MV.cls n [r,.dict (emb d')]:=by
 exact ⟨h,axE n d',trivial⟩
theorem bvv {b:Bs}:ax6 (.bytes b) (.list ((ajM.take 7).map MV.bytes)) st Q E=Q (.bool (!vin b)) st:=bvw
theorem bK7:aJo (.bytes [48]) (.int 40) st Q E=Q (.bytes avq) st:=aXi (n:=40) (by decide)
theorem avG (x:Option Bs):(x.map MV.bytes).getD (.bytes (List.replicate 40 48)) = .bytes (x.getD avq):=by cases x<;>rfl
noncomputable abbrev dueV:M MF:=(ifM (ifM (ajh (getL 1) (ret (MV.int 3)) mNe aj3) (ifM (ajh (getL 3) (aje (bnd (ret []) ajB) (ret MV.none) (ret (MV.int 7))) ax6 aj3) (ret true) (ret false)) (ret false)) (aju (aka (aj0 (ret (MV.str "value")) (aj0 (getL 0) (ret []))))) (ret MF.next))
noncomputable abbrev bX2:M MF:=ajc (ifM (ifM (ajh (getL 1) (ret (MV.int 3)) mNe aj3) (ifM (aKU (bnd (bnd (aj0 (getL 2) (ret [])) aq5) aj3)) (ret true) (ret false)) (ret false)) (aju (aka (aj0 (ret (MV.str "name")) (aj0 (getL 0) (ret []))))) (ret MF.next)) (aju (aka (aj0 (ifM (ajh (getL 1) (ret (MV.int 0)) mEq aj3) (ret MV.none) (ret (MV.bool true))) (aj0 (bnd (aj0 (getL 0) (aj0 (getL 2) (aj0 (ifM (ajh (getL 1) (ret (MV.int 3)) mEq aj3) (ret MV.none) (getL 3)) (ret [])))) aqR) (ret [])))))
noncomputable abbrev dueT:M MF:=ajc (ifM (ifM (ajh (getL 1) (ret (MV.int 2)) mEq aj3) (ifM (ajh (getL 2) (getL 0) mIn aj3) (ret true) (ret false)) (ret false)) (aju (aka (aj0 (ret (MV.bool false)) (aj0 (getL 0) (ret []))))) (ret MF.next)) bX2
theorem bZP {kind:Nat}{name value oth:Bs}{old:Option Bs} (hk:kind≤8) (hn:(aj7 d).Nodup) (hv:okV d) (hl:d.length≤900) (hb:name.length≤900) (ho:oth.length≤900)
  (hq:Q (.tup [(axd d kind name value old oth).1,.dict (emb (axd d kind name value old oth).2)]) ⟨l,o⟩):axp [.dict (emb d),.int kind,.bytes name,.bytes value,aqO old,.bytes oth] ⟨l,o⟩ Q E:=by
 have hval:(ajM.map MV.bytes).length≤10000:=by decide
 have hlo:([114,101,102,58,32]:Bs).length + oth.length≤16777216:=by show 5 + oth.length≤_;walk_at "O"
 have hnm:name.length≤1000:=by walk_at "O"
 have put:∀ {r:MV}{d':D},axd d kind name value old oth=(r,d')→r.cl o.length→(MV.tup [r,.dict (emb d')]).cl o.length∧akd o o∧Q (.tup [r,.dict (emb d')]) ⟨l,o.take o.length⟩:=fun {r d'} h1 h2=>⟨by exact cls2 h2,akd.same _,by rw [h1] at hq;rw [ake];exact hq⟩
 have tB:∀ {b:Bool},(MV.bool b).cl o.length:=fun {b}=>by trivial
 have tS:∀ {b:Str},(MV.str b).cl o.length:=fun {b}=>by trivial
 have tN:(MV.none).cl o.length:=by trivial
 have tBy:∀ {b:Bs},(MV.bytes b).cl o.length:=fun {b}=>by trivial
 refine aXB rfl ?_
 rw [aqb]
 refine aji fun K kn kr kb kc=>?_
 wide_open with []
 have go:∀ x6 x7:MV,x7≠.unb→((x6 = .none∧ajq d 5 name=none)∨∃ ns e,ajq d 5 name=some (ns,e)∧x6 = .list (ns.map MV.bytes)∧x7=aqO e)→
   K .next ⟨[.dict (emb d),.int kind,.bytes name,.bytes value,aqO old,.bytes oth,x6,x7],o⟩:=fun x6 x7 h7 hc=>by
  refine kn _ ?_
  clear kn kr kb kc K
  have hkk:=bvO hk
  rcases hkk with rfl | rfl | rfl | h45 | rfl | h012
  ·rcases hc with ⟨rfl,hch⟩ | ⟨ns,e,hch,rfl,rfl⟩
   ·refine av7 (by exact fun _=>rfl) fun K _ kr=>?_
    wide_open with []
    exact kr _ _ (put (bJ8 hch) tS)
   ·refine ajj (by exact fun _=>rfl) ?_
    refine av7 (by exact fun _=>rfl) fun K _ kr=>?_
    wide_open with [h7]
    exact kr _ _ (put (bKz hch) (by exact axs _ ns e))
  ·rcases hc with ⟨rfl,hch⟩ | ⟨ns,e,hch,rfl,rfl⟩
   ·refine av7 (by exact fun _=>rfl) fun K _ kr=>?_
    wide_open with []
    exact kr _ _ (put (bJ7 hch) tS)
   ·refine ajj (by exact fun _=>rfl) ?_
    refine ajj (by exact fun _=>rfl) ?_
    refine av7 (by exact fun _=>rfl) fun K _ kr=>?_
    cases e with
    | none=>
     wide_open with []
     exact kr _ _ (put (bJ6 hch) tS)
    | some v=>
     wide_open with []
     exact kr _ _ (put (bJ5 hch) tBy)
  ·refine ajj (by exact fun _=>rfl) ?_
   refine ajj (by exact fun _=>rfl) ?_
   refine ajj (by exact fun _=>rfl) ?_
   refine av7 (by exact fun _=>rfl) fun K _ kr=>?_
   wide_open with [bKX hn]
   exact kr _ _ (put rfl tB)
  ·have:=put (r:=.none) (d':=ak5 d name (some (akb++oth))) (bJ9 h45) tN
   have fin:∀ {K:MF→MSt→Prop}{E0:Value→MSt→Prop}{s:MSt},s.objs=o→s.loc=[.dict (emb d),.int kind,.bytes name,.bytes value,aqO old,.bytes oth,x6,x7]→K (.ret (.tup [.none,.dict (emb (ak5 d name (some (akb++oth))))])) ⟨[.dict (emb d),.int kind,.bytes name,.bytes value,aqO old,.bytes oth,x6,x7],o⟩→
     (aju (aka (aj0 (ret MV.none) (aj0 (bnd (aj0 (getL 0) (aj0 (getL 2) (aj0 (ajs (ret (MV.bytes [114,101,102,58,32])) (getL 5) akc) (ret [])))) aqR) (ret []))))) s K E0:=fun {K E0 s} h1 h2 kk=>by
    obtain ⟨a,b⟩:=s
    cases h1;cases h2
    wide_open with [hlo]
    refine aV1 (v:=some (akb++oth)) hn hl ?_
    wide_open with []
    exact kk
   rcases h45 with rfl | rfl
   ·refine ajj (by exact fun _=>rfl) ?_
    refine ajj (by exact fun _=>rfl) ?_
    refine ajj (by exact fun _=>rfl) ?_
    refine ajj (by exact fun _=>rfl) ?_
    exact av7 (by exact fun _=>rfl) fun K _ kr=>fin rfl rfl (kr _ _ this)
   ·refine ajj (by exact fun _=>rfl) ?_
    refine ajj (by exact fun _=>rfl) ?_
    refine ajj (by exact fun _=>rfl) ?_
    refine ajj (by exact fun _=>rfl) ?_
    exact av7 (by exact fun _=>rfl) fun K _ kr=>fin rfl rfl (kr _ _ this)
  ·refine ajj (by exact fun _=>rfl) ?_
   refine ajj (by exact fun _=>rfl) ?_
   refine ajj (by exact fun _=>rfl) ?_
   refine ajj (by exact fun _=>rfl) ?_
   refine ajj (by exact fun _=>rfl) ?_
   refine ajj (by exact fun _=>rfl) ?_
   have rest:other d name old=false→∀ {s:MSt},s=⟨[.dict (emb d),.int (3:Nat),.bytes name,.bytes value,aqO old,.bytes oth,x6,x7],o⟩→∀ {QF:MF→MSt→Prop}{E0:Value→MSt→Prop},QF (.ret (.tup [.bool true,.dict (emb (ak5 d name none))])) s→dueT s QF E0:=fun hot {s} hs {QF E0} kk=>by
    subst hs
    refine ajj (by exact fun _=>rfl) ?_
    refine ajj (by exact fun _=>rfl) ?_
    wide_open with [Int.cast_ofNat_Int,Int.reduceEq]
    refine aV1 (v:=none) hn hl ?_
    wide_open with []
    exact kk
   cases old with
   | none=>
    refine ajj (by exact fun _=>rfl) ?_
    exact rest rfl rfl (put (bZu rfl) tB)
   | some x=>
    refine aji fun K kn kr _ _=>?_
    dsimp only [aqO,Option.map_some,Option.getD_some]
    wide_open with [Int.cast_ofNat_Int,Int.reduceEq,bK7,dg3 (bzL (d:=d)) hn,isD (bzL (d:=d)) hn,axb,avG]
    cases hx:decide ((ajp d name).getD avq=x) with
    | false=>
     wide_open with []
     exact kr _ _ (put (bJa (by show (!decide _)=true;rw [hx];rfl)) tB)
    | true=>
     wide_open with []
     exact kn _ (rest (by show (!decide _)=false;rw [hx];rfl) rfl (put (bZu (by show (!decide _)=false;rw [hx];rfl)) tB))
  ·-- the deeds that put a value
   have h1s:kind=0∨kind=1∨kind=2:=h012
   have k0:=k012 h012
   have rest:vin value=true→¬ (kind=1∧other d name old=true)→¬ (kind=2∧name∈aj7 d)→∀ {s:MSt},s=⟨[.dict (emb d),.int kind,.bytes name,.bytes value,aqO old,.bytes oth,x6,x7],o⟩→∀ {QF:MF→MSt→Prop}{E0:Value→MSt→Prop},
     (∀ r d',axd d kind name value old oth=(r,d')→r.cl o.length→QF (.ret (.tup [r,.dict (emb d')])) s)→bX2 s QF E0:=fun z z1 z2 {s} hs {QF E0} kk=>by
    have e0:=bJD (oth:=oth) h012 z z1 z2
    subst hs
    refine aji fun K kn kr _ _=>?_
    have d3:decide ((kind:Int)=3)=false:=ki (n:=3) k0.2.2.2.2
    wide_open with [d3,bq4 hnm]
    cases h2:ajN name with
    | false=>
     rw [if_pos h2] at e0
     wide_open with []
     exact kr _ _ (kk _ _ e0 tS)
    | true=>
     rw [if_neg (by rw [h2];decide)] at e0
     wide_open with []
     refine kn _ ?_
     cases hk0:decide ((kind:Int)=0) with
     | true=>
      have:kind=0:=Int.ofNat.inj (of_decide_eq_true hk0)
      rw [if_pos this] at e0
      wide_open with [hk0,d3]
      refine aV1 (v:=some value) hn hl ?_
      wide_open with []
      exact kk _ _ e0 tN
     | false=>
      have:¬ kind=0:=fun z=>of_decide_eq_false hk0 (congrArg Int.ofNat z)
      rw [if_neg this] at e0
      wide_open with [hk0,d3]
      refine aV1 (v:=some value) hn hl ?_
      wide_open with []
      exact kk _ _ e0 tB
   have skip:∀ {s:MSt},s=⟨[.dict (emb d),.int kind,.bytes name,.bytes value,aqO old,.bytes oth,x6,x7],o⟩→∀ {R:M MF}{QF:MF→MSt→Prop}{E0:Value→MSt→Prop},(vin value=false→QF (.ret (.tup [.str "value",.dict (emb d)])) s)→(vin value=true→R s QF E0)→ajc dueV R s QF E0:=fun {s} hs {R QF E0} ka kb=>by
    subst hs
    refine aji fun K kn kr _ _=>?_
    have d3:decide ((kind:Int)=3)=false:=ki (n:=3) k0.2.2.2.2
    wide_open with [d3,aZh,cut7,hval,bvv]
    cases h1:vin value with
    | false=>wide_open with [];exact kr _ _ (ka h1)
    | true=>wide_open with [];exact kn _ (kb h1)
   rcases h1s with rfl | rfl | rfl
   ·refine ajj (by exact fun _=>rfl) ?_
    refine ajj (by exact fun _=>rfl) ?_
    refine ajj (by exact fun _=>rfl) ?_
    refine ajj (by exact fun _=>rfl) ?_
    refine ajj (by exact fun _=>rfl) ?_
    refine skip rfl (fun z=>put (aQV h012 z) tS) fun z=>?_
    refine ajj (by exact fun _=>rfl) ?_
    refine ajj (by exact fun _=>rfl) ?_
    exact rest z (fun z=>absurd z.1 (by decide)) (fun z=>absurd z.1 (by decide)) rfl fun r d' e c=>put e c
   ·refine ajj (by exact fun _=>rfl) ?_
    refine ajj (by exact fun _=>rfl) ?_
    refine ajj (by exact fun _=>rfl) ?_
    refine ajj (by exact fun _=>rfl) ?_
    refine ajj (by exact fun _=>rfl) ?_
    refine skip rfl (fun z=>put (aQV h012 z) tS) fun z=>?_
    cases old with
    | none=>
     refine ajj (by exact fun _=>rfl) ?_
     refine ajj (by exact fun _=>rfl) ?_
     exact rest z (fun z=>Bool.noConfusion z.2) (fun z=>absurd z.1 (by decide)) rfl fun r d' e c=>put e c
    | some x=>
     refine aji fun K kn kr _ _=>?_
     dsimp only [aqO,Option.map_some,Option.getD_some]
     wide_open with [Int.cast_ofNat_Int,Int.reduceEq,bK7,dg3 (bzL (d:=d)) hn,isD (bzL (d:=d)) hn,axb,avG]
     cases hx:decide ((ajp d name).getD avq=x) with
     | false=>
      have hot:other d name (some x)=true:=by show (!decide _)=true;rw [hx];rfl
      wide_open with []
      exact kr _ _ (put (bQV z ⟨rfl,hot⟩) tB)
     | true=>
      have hot:¬ other d name (some x)=true:=by show ¬ (!decide _)=true;rw [hx];decide
      wide_open with []
      refine kn _ ?_
      refine ajj (by exact fun _=>rfl) ?_
      exact rest z (fun z=>hot z.2) (fun z=>absurd z.1 (by decide)) rfl fun r d' e c=>put e c
   ·refine ajj (by exact fun _=>rfl) ?_
    refine ajj (by exact fun _=>rfl) ?_
    refine ajj (by exact fun _=>rfl) ?_
    refine ajj (by exact fun _=>rfl) ?_
    refine ajj (by exact fun _=>rfl) ?_
    refine skip rfl (fun z=>put (aQV h012 z) tS) fun z=>?_
    refine ajj (by exact fun _=>rfl) ?_
    refine aji fun K kn kr _ _=>?_
    wide_open with [Int.cast_ofNat_Int,Int.reduceEq,bKX hn]
    cases hm:decide (name∈aj7 d) with
    | true=>
     wide_open with []
     exact kr _ _ (put (bQU z ⟨rfl,of_decide_eq_true hm⟩) tB)
    | false=>
     wide_open with []
     exact kn _ (rest z (fun z=>absurd z.1 (by decide)) (fun z=>of_decide_eq_false hm z.2) rfl fun r d' e c=>put e c)
 refine bjZ hn hv (by walk_at "O") (fun ns e hce=>?_) (fun hce=>?_)
 ·have:aqO e≠.unb:=by cases e<;>simp [aqO]
  wide_open with [this]
  exact go _ _ this (.inr ⟨ns,e,hce,rfl,rfl⟩)
 ·wide_open with []
  exact go _ _ (by simp) (.inl ⟨rfl,hce⟩)
end
end Mine
namespace Mine
open PySem PySem.W
section
variable {l:List MV}{o:List MO}{d R:D}{st:MSt}{Q:MV→MSt→Prop}{E:Value→MSt→Prop}
theorem avJ (h:∀ k,ajp R k=ajp d k):∀ (n:Nat) (k:Bs),ajq R n k=ajq d n k
 | 0,k=>by dsimp only [ajq];rw [h]
 | n + 1,k=>by
  dsimp only [ajq]
  rw [h]
  cases ajp d k with
  | none=>rfl
  | some v=>simp only [avJ h n]
theorem aZr (h:∀ k,ajp R k=ajp d k) (k:Bs):decide (k∈aj7 R)=decide (k∈aj7 d):=by rw [← azx,← azx,h]
theorem aVU (h:∀ k,ajp R k=ajp d k) (k:Bs) (old:Option Bs):other R k old=other d k old:=by unfold other;rw [h]
theorem bQd {kind:Nat}{name value oth:Bs}{old:Option Bs} (hk:kind≤8) (h0:o[0]? = some .tab) (h:o[1]? = some (.dict (emb R))) (hn:(aj7 R).Nodup) (hv:okV R) (hl:R.length≤900) (hb:name.length≤900) (ho:oth.length≤900) (hvl:value.length≤900) (hs:name.getLast?≠some 47)
  (same:∀ k,ajp R k=ajp d k) (hok:akX value=vin value) (h2:kind=2→ajN name=true) (h4:kind=4∨kind=5→ajq d 5 name≠none)
  (hq:∀ o' R',Upd o o' R'→(aj7 R').Nodup→R'.length≤R.length + 1→(∀ k,ajp R' k=ajp (axd d kind name value old oth).2 k)→Q (axd d kind name value old oth).1 ⟨l,o'⟩):akk [.refs 1,.int kind,.bytes name,.bytes value,aqO old,.bytes oth] ⟨l,o⟩ Q E:=by
 have hold:aqO old≠.unb:=by cases old<;>simp [aqO]
 have kup:∀ {o' R'},Upd o o' R'→akd o o'∧o'.take o.length=o':=fun {o' R'} hu=>⟨fun i mo hi hm=>by
   by_cases z:i=1
   ·subst z
    rw [hu.2.1] at hm;cases hm
    right;show MV.cld _ _;exact axE _ _
   ·rw [hu.2.2 i z] at hm;exact .inl hm,List.take_of_length_le (by rw [hu.1];exact Nat.le_refl _)⟩
 have same1:∀ {r:MV},axd d kind name value old oth=(r,d)→akd o o∧Q r ⟨l,o.take o.length⟩:=fun {r} hr=>by
  have:=hq o R (aXZ h) hn (Nat.le_succ _) (by rw [hr];exact same)
  rw [hr] at this
  exact ⟨akd.same _,by rw [ake];exact this⟩
 have upd1:∀ {r:MV}{o' R' v},Upd o o' R'→(aj7 R').Nodup→R'.length≤R.length + 1→(∀ k,ajp R' k=if k=name then v else ajp R k)→axd d kind name value old oth=(r,ak5 d name v)→akd o o'∧Q r ⟨l,o'.take o.length⟩:=fun {r o' R' v} hu hn' hl' hg hr=>by
  have:=hq o' R' hu hn' hl' (fun k=>by rw [hr,hg];show _=ajp (ak5 d name v) k;rw [bqU,same])
  rw [hr] at this
  exact ⟨(kup hu).1,by rw [(kup hu).2];exact this⟩
 have updS:∀ {r:MV}{o' v},Upd o o' (aJh R name v)→axd d kind name value old oth=(r,ak5 d name (some v))→akd o o'∧Q r ⟨l,o'.take o.length⟩:=fun {r o' v} hu hr=>upd1 hu (azh hn _ _) (axr _ _ _) (fun k=>ak6 _ _ _ _) hr
 have eV:∀ {Q0:MF→MSt→Prop}{E0:Value→MSt→Prop}{s:MSt},Q0 (.ret (.str "value")) s→aq0 [(aKZ,(ret (MF.ret (MV.str "value")))),(bv6,(ret (MF.ret (MV.str "name")))),(bv7,(ret (MF.ret (MV.str "loop")))),(bzE,(ret (MF.ret (MV.str "none"))))] aQ6 s Q0 E0:=fun q=>⟨true,bZl,q⟩
 have eR:∀ {Q0:MF→MSt→Prop}{E0:Value→MSt→Prop}{s:MSt},Q0 (.ret (.str "name")) s→aq0 [(aKZ,(ret (MF.ret (MV.str "value")))),(bv6,(ret (MF.ret (MV.str "name")))),(bv7,(ret (MF.ret (MV.str "loop")))),(bzE,(ret (MF.ret (MV.str "none"))))] aKV s Q0 E0:=fun q=>
  ⟨false,by exact .tail _ (.tail _ (.head _)),true,by exact .tail _ (.tail _ (.head _)),q⟩
 have eL:∀ {Q0:MF→MSt→Prop}{E0:Value→MSt→Prop}{s:MSt},Q0 (.ret (.str "loop")) s→aq0 [(aKZ,(ret (MF.ret (MV.str "value")))),(bv6,(ret (MF.ret (MV.str "name")))),(bv7,(ret (MF.ret (MV.str "loop")))),(bzE,(ret (MF.ret (MV.str "none"))))] akG s Q0 E0:=fun q=>
  ⟨false,by exact .tail _ (.tail _ (.tail _ (.head _))),false,by exact .tail _ (.tail _ (.tail _ (.head _))),true,by exact .tail _ (.tail _ (.tail _ (.head _))),q⟩
 have eK:∀ {Q0:MF→MSt→Prop}{E0:Value→MSt→Prop}{s:MSt},Q0 (.ret (.str "none")) s→aq0 [(aKZ,(ret (MF.ret (MV.str "value")))),(bv6,(ret (MF.ret (MV.str "name")))),(bv7,(ret (MF.ret (MV.str "loop")))),(bzE,(ret (MF.ret (MV.str "none"))))] aVD s Q0 E0:=fun q=>
  ⟨false,by exact .tail _ (.head _),false,by exact .tail _ (.head _),false,by exact .tail _ (.head _),true,by exact .tail _ (.head _),q⟩
 have hcs:∀ {r},ajq R 5 name=r→ajq d 5 name=r:=fun {r} e=>(avJ same 5 name).symm.trans e
 have hos:∀ {b},other R name old=b→other d name old=b:=fun {b} e=>(aVU same name old).symm.trans e
 have hkk:=bvO hk
 refine aXB rfl ?_
 rw [aqb]
 refine bZG fun K0 E0 _ kr0 ke=>?_
 rcases hkk with rfl | rfl | rfl | h45 | rfl | rfl | rfl | rfl
 ·refine ajj (by exact fun _=>rfl) (ajj (by exact fun _=>rfl) (ajj (by exact fun _=>rfl) (ajj (by exact fun _=>rfl) ?_)))
  refine av7 (by exact fun _=>rfl) fun K _ kr=>?_
  wide_open with []
  refine aZj h hn hv hb (fun ns e hce=>kr _ _ (kr0 _ _ ?_)) (fun hce=>ke _ _ (eL ?_))
  ·exact ⟨axs _ ns e,same1 (r:=.tup [.list (ns.map MV.bytes),aqO e]) (bKz (hcs hce))⟩
  ·exact ⟨trivial,same1 (r:=.str "loop") (bJ8 (hcs hce))⟩
 ·refine ajj (by exact fun _=>rfl) (ajj (by exact fun _=>rfl) (ajj (by exact fun _=>rfl) (ajj (by exact fun _=>rfl) (ajj (by exact fun _=>rfl) ?_))))
  refine av7 (by exact fun _=>rfl) fun K _ kr=>?_
  wide_open with []
  refine aKa h hn hv hb (fun ns v hce=>kr _ _ (kr0 _ _ ?_)) (fun ns hce=>ke _ _ (eK ?_)) (fun hce=>ke _ _ (eL ?_))
  ·exact ⟨trivial,same1 (r:=.bytes v) (bJ5 (hcs hce))⟩
  ·exact ⟨trivial,same1 (r:=.str "none") (bJ6 (hcs hce))⟩
  ·exact ⟨trivial,same1 (r:=.str "loop") (bJ7 (hcs hce))⟩
 ·refine ajj (by exact fun _=>rfl) (ajj (by exact fun _=>rfl) (ajj (by exact fun _=>rfl) (ajj (by exact fun _=>rfl) (ajj (by exact fun _=>rfl) (ajj (by exact fun _=>rfl) ?_)))))
  refine av7 (by exact fun _=>rfl) fun K _ kr=>?_
  wide_open with [aVQ h hn hv]
  exact kr _ _ (kr0 _ _ ⟨trivial,same1 (r:=.bool (decide (name∈aj7 R))) (by rw [aZr same];rfl)⟩)
 ·have fin:∀ o',Upd o o' (aJh R name (akb++oth))→akd o o'∧Q .none ⟨l,o'.take o.length⟩:=fun o' hu=>updS hu (bJ9 h45)
  have go:∀ {s:MSt},s=⟨[.refs 1,.int kind,.bytes name,.bytes value,aqO old,.bytes oth],o⟩→(ajc (axO (ajk ajK (getL 0) (aj0 (getL 2) (aj0 (getL 5) (ret []))) ajW)) (aju (ret MV.none))) s K0 E0:=fun {s} hs=>by
   subst hs
   wide_open with []
   refine bq3 h hn hv (by walk_at "O") hb ho (fun o' hu=>?_) (fun z=>h4 h45 (hcs z))
   wide_open with []
   exact kr0 _ _ ⟨trivial,fin o' hu⟩
  rcases h45 with rfl | rfl
  ·exact ajj (by exact fun _=>rfl) (ajj (by exact fun _=>rfl) (ajj (by exact fun _=>rfl) (ajj (by exact fun _=>rfl) (ajj (by exact fun _=>rfl) (ajj (by exact fun _=>rfl) (ajj (by exact fun _=>rfl) (go rfl)))))))
  ·exact ajj (by exact fun _=>rfl) (ajj (by exact fun _=>rfl) (ajj (by exact fun _=>rfl) (ajj (by exact fun _=>rfl) (ajj (by exact fun _=>rfl) (ajj (by exact fun _=>rfl) (ajj (by exact fun _=>rfl) (go rfl)))))))
 ·refine ajj (by exact fun _=>rfl) (ajj (by exact fun _=>rfl) (ajj (by exact fun _=>rfl) ?_))
  refine av7 (by exact fun _=>rfl) fun K _ kr=>?_
  wide_open with [hold]
  refine bka h hn (by walk_at "O") (fun ho2=>kr _ _ (kr0 _ _ ?_)) (fun ho2 o' d' hu hd'=>kr _ _ (kr0 _ _ ?_))
  ·exact ⟨trivial,same1 (r:=.bool false) (bJa (hos ho2))⟩
  ·refine ⟨trivial,upd1 (r:=.bool true) (v:=none) hu ?_ ?_ ?_ (bZu (hos ho2))⟩
   ·rcases hd' with rfl | ⟨rfl,_⟩
    ·exact ak2 hn _
    ·exact hn
   ·rcases hd' with rfl | ⟨rfl,_⟩
    ·exact Nat.le_trans (avc _ _) (Nat.le_succ _)
    ·exact Nat.le_succ _
   ·intro k
    rcases hd' with rfl | ⟨rfl,hg⟩
    ·exact aJV _ _ _
    ·by_cases z:k=name
     ·subst z;rw [if_pos rfl];exact hg
     ·rw [if_neg z]
 ·refine av7 (by exact fun _=>rfl) fun K _ kr=>?_
  wide_open with []
  refine bq2 h0 h hn (by walk_at "O") (by walk_at "O") hs (by walk_at "O") (fun z=>ke _ _ (eV ?_)) (fun z hr=>ke _ _ (eR ?_)) (fun z hr o' hu=>?_)
  ·rw [hok] at z
   exact ⟨trivial,same1 (r:=.str "value") (aQV (.inl rfl) z)⟩
  ·rw [hok] at z
   exact ⟨trivial,same1 (r:=.str "name") ((bJD (.inl rfl) z (fun z=>absurd z.1 (by decide)) (fun z=>absurd z.1 (by decide))).trans (if_pos hr))⟩
  ·rw [hok] at z
   wide_open with []
   exact kr _ _ (kr0 _ _ ⟨trivial,updS (r:=.none) hu ((bJD (.inl rfl) z (fun z=>absurd z.1 (by decide)) (fun z=>absurd z.1 (by decide))).trans (if_neg (tne hr)))⟩)
 ·refine ajj (by exact fun _=>rfl) ?_
  refine av7 (by exact fun _=>rfl) fun K _ kr=>?_
  wide_open with [hold]
  refine aV2 h0 h hn (by walk_at "O") (by walk_at "O") hs (by walk_at "O") (fun z=>ke _ _ (eV ?_)) (fun z hot=>kr _ _ (kr0 _ _ ?_)) (fun z hot hr=>ke _ _ (eR ?_)) (fun z hot hr o' hu=>kr _ _ (kr0 _ _ ?_))
  ·rw [hok] at z
   exact ⟨trivial,same1 (r:=.str "value") (aQV (.inr (.inl rfl)) z)⟩
  ·rw [hok] at z
   exact ⟨trivial,same1 (r:=.bool false) (bQV z ⟨rfl,hos hot⟩)⟩
  ·rw [hok] at z
   exact ⟨trivial,same1 (r:=.str "name") ((bJD (.inr (.inl rfl)) z (fun z=>by rw [hos hot] at z;cases z.2) (fun z=>absurd z.1 (by decide))).trans (if_pos hr))⟩
  ·rw [hok] at z
   exact ⟨trivial,updS (r:=.bool true) hu ((bJD (.inr (.inl rfl)) z (fun z=>by rw [hos hot] at z;cases z.2) (fun z=>absurd z.1 (by decide))).trans (if_neg (tne hr)))⟩
 ·refine ajj (by exact fun _=>rfl) (ajj (by exact fun _=>rfl) ?_)
  refine av7 (by exact fun _=>rfl) fun K _ kr=>?_
  wide_open with []
  have hms:name∈aj7 R↔name∈aj7 d:=by have:=aZr same name;exact decide_eq_decide.mp this
  refine bkd h hn (by walk_at "O") (by walk_at "O") (fun z=>ke _ _ (eV ?_)) (fun z hm=>kr _ _ (kr0 _ _ ?_)) (fun z hm o' hu=>kr _ _ (kr0 _ _ ?_))
  ·rw [hok] at z
   exact ⟨trivial,same1 (r:=.str "value") (aQV (.inr (.inr rfl)) z)⟩
  ·rw [hok] at z
   exact ⟨trivial,same1 (r:=.bool false) (bQU z ⟨rfl,hms.mp hm⟩)⟩
  ·rw [hok] at z
   exact ⟨trivial,updS (r:=.bool true) hu ((bJD (.inr (.inr rfl)) z (fun z=>absurd z.1 (by decide)) (fun z=>hm (hms.mpr z.2))).trans (if_neg (tne (h2 rfl))))⟩
end
end Mine
namespace Mine
open PySem PySem.W
noncomputable def aZT (d:D) (n:Bs):Option Bs:=match ajq d 5 n with
 | some (_,e)=>e
 | none=>none
theorem aKy {R d:D} (h:∀ k,ajp R k=ajp d k) (n:Bs):aZT R n=aZT d n:=by unfold aZT;rw [avJ h]
theorem aky {b k e:Bs}:b++k=e↔e.take b.length=b∧k=e.drop b.length:=by
 constructor
 ·intro h;subst h;simp
 ·intro ⟨h1,h2⟩
  subst h2
  conv=>lhs;lhs;rw [← h1]
  exact List.take_append_drop _ _
theorem aJt {x:Bs} (h1:x.head?≠some 47) (h2:x.getLast?≠some 47):ajy true true [47] x=x:=by
 have f:∀ y:Bs,y.head?≠some 47→y.dropWhile (fun c=>[47].contains c)=y:=fun y hy=>by
  cases y with
  | nil=>rfl
  | cons a y=>
   have:a≠47:=fun z=>hy (by rw [z];rfl)
   rw [List.dropWhile_cons,if_neg (by simp [this])]
 show ((x.dropWhile _).reverse.dropWhile _).reverse=x
 rw [f x h1,f x.reverse (by rw [List.head?_reverse];exact h2),List.reverse_reverse]
theorem aX0 {x:Bs} (h1:x.head?≠some 47) (h2:x.getLast?≠some 47):ajy true true [47] (47::x)=x:=aJt h1 h2
section
variable {l:List MV}{o:List MO}{d:D}{st:MSt}{Q:MV→MSt→Prop}{E:Value→MSt→Prop}
theorem bXb {a b:MV}:lAt [a,b] 1=some b:=rfl
theorem bXc {a b:MV}:lAt [a,b] 0=some a:=rfl
noncomputable abbrev bxU:M MF:=(ajc (aqc (ajs (bnd (aj0 (getL 0) (aj0 (getL 3) (ret []))) aqt) (ret (MV.int 1)) ajG) 4)
 (ifM (ifM (ajh (aje (getL 3) (ret MV.none) (bnd (aj0 (getL 1) (ret [])) aQL)) (getL 1) mEq aj3) (ifM (ajh (getL 4) (ret MV.none) ajI aj3) (ret true) (ret false)) (ret false)) (az9 (getL 4) (getL 2) (aje (getL 3) (bnd (aj0 (getL 1) (ret [])) aQL) (ret MV.none)) aQX) (ret MF.next)))
theorem bqw {base:Bs} (hn:(aj7 d).Nodup) (hv:okV d) (hl:d.length≤900) (hb:base.length≤900) (hk:∀ k∈aj7 d,k.length≤900) {QF:MF→MSt→Prop}:∀ (r p:List Bs) (acc:D) (x3 x4:MV),aj7 d=p++r→(aj7 acc).Nodup→acc.length≤p.length→(∀ k,ajp acc k=if base++k∈p then aZT d (base++k) else none)→
  (∀ acc' x3' x4',(aj7 acc').Nodup→(∀ k,ajp acc' k=if base++k∈aj7 d then aZT d (base++k) else none)→QF .next ⟨[.dict (emb d),.bytes base,.obj o.length,x3',x4'],o++[.dict (emb acc')]⟩)→
  aqu (r.map MV.bytes) (ajD 3) bxU ⟨[.dict (emb d),.bytes base,.obj o.length,x3,x4],o++[.dict (emb acc)]⟩ QF E:=by
 intro r0
 induction r0 with
 | nil=>
  intro p acc x3 x4 hd ha hal hg hq
  rw [List.append_nil] at hd
  rw [← hd] at hg
  exact hq acc x3 x4 ha hg
 | cons e r ih=>
  intro p acc x3 x4 hd ha hal hg hq
  show aqu (.bytes e::r.map MV.bytes) (ajD 3) bxU _ QF E
  have hmem:e∈aj7 d:=by rw [hd];simp
  have hel:=hk e hmem
  have hnp:e∉p:=fun hp=>by rw [hd] at hn;exact (List.nodup_append.mp hn).2.2 _ hp _ (.head _) rfl
  have hpl:p.length + 1≤d.length:=by
   have:(aj7 d).length=d.length:=by rw [List.length_map]
   rw [← this,hd,List.length_append,List.length_cons];walk_at "O"
  refine aJg fun K k1 k2 k3 k4=>?_
  walk_at "T"
  have go:∀ (ev:Option Bs),aZT d e=ev→∀ x4',x4'=aqO ev→K .next=K .next→(ifM (ifM (ajh (aje (getL 3) (ret MV.none) (bnd (aj0 (getL 1) (ret [])) aQL)) (getL 1) mEq aj3) (ifM (ajh (getL 4) (ret MV.none) ajI aj3) (ret true) (ret false)) (ret false)) (az9 (getL 4) (getL 2) (aje (getL 3) (bnd (aj0 (getL 1) (ret [])) aQL) (ret MV.none)) aQX) (ret MF.next)) ⟨[.dict (emb d),.bytes base,.obj o.length,.bytes e,x4'],o++[.dict (emb acc)]⟩ K E:=by
   intro ev hev x4' hx4 _
   subst hx4
   have hu:aqO ev≠.unb:=by cases ev<;>simp [aqO]
   have miss:(e.take base.length≠base∨ev=none)→∀ k,ajp acc k=if base++k∈p++[e] then aZT d (base++k) else none:=fun hm k=>by
    rw [hg k]
    by_cases z:base++k=e
    ·have:ev=none:=by
      rcases hm with hm | hm
      ·exact absurd (aky.mp z).1 hm
      ·exact hm
     rw [z,if_neg hnp,hev,this]
     split<;>rfl
    ·simp [z]
   wide_open with [show base.length≤1099511627776 by walk_at "O",show e.length≤16777216 by walk_at "O",aks,akt]
   by_cases ht:e.take base.length=base
   ·rw [decide_eq_true ht]
    cases ev with
    | none=>
     wide_open with [aq3,ajE]
     exact k1 _ (ih (p++[e]) acc _ _ (by rw [hd];simp) ha (by rw [List.length_append];walk_at "O") (miss (.inr rfl)) hq)
    | some v=>
     dsimp only [aqO,Option.map_some,Option.getD_some]
     wide_open with [aq3,ajE,show base.length≤1099511627776 by walk_at "O",show e.length≤16777216 by walk_at "O",aks,akt,dsN ha (show acc.length≤1000 by walk_at "O")]
     refine k1 _ (ih (p++[e]) _ _ _ (by rw [hd];simp) (azh ha _ _) (by have:=axr acc (e.drop base.length) v;rw [List.length_append,List.length_singleton];walk_at "O") (fun k=>?_) hq)
     rw [ak6,hg k]
     by_cases z:k=e.drop base.length
     ·have:base++k=e:=aky.mpr ⟨ht,z⟩
      rw [if_pos z,this,if_pos (by simp),hev]
     ·have:¬ base++k=e:=fun q=>z (aky.mp q).2
      rw [if_neg z]
      simp [this]
   ·rw [decide_eq_false ht]
    wide_open with []
    exact k1 _ (ih (p++[e]) acc _ _ (by rw [hd];simp) ha (by rw [List.length_append];walk_at "O") (miss (.inl ht)) hq)
  refine aji fun K' kn kr kb kc=>?_
  wide_open with []
  refine bjZ hn hv (by walk_at "O") (fun ns ev hce=>?_) (fun hce=>?_)
  ·have hu:aqO ev≠.unb:=by cases ev<;>simp [aqO]
   wide_open with [bXb,exists_eq_left',List.length_cons,List.length_nil,hu]
   refine kn _ (go ev (by unfold aZT;rw [hce]) _ rfl rfl)
  ·wide_open with [bXb,exists_eq_left',List.length_cons,List.length_nil]
   refine kn _ (go none (by unfold aZT;rw [hce]) _ rfl rfl)
theorem bxu {base:Bs} (hn:(aj7 d).Nodup) (hv:okV d) (hl:d.length≤900) (hb:base.length≤900) (hk:∀ k∈aj7 d,k.length≤900)
  (hq:∀ acc,(aj7 acc).Nodup→(∀ k,ajp acc k=if base++k∈aj7 d then aZT d (base++k) else none)→Q (.dict (emb acc)) ⟨l,o⟩):aqS [.dict (emb d),.bytes base] ⟨l,o⟩ Q E:=by
 refine aXB rfl ?_
 rw [aqb]
 refine aji fun K kn kr kb kc=>?_
 wide_open with []
 refine kn _ ?_
 refine aji fun K kn kr kb kc=>?_
 wide_open with [ajC,hn]
 refine bqw hn hv hl hb hk (aj7 d) [] [] .unb .unb rfl List.nodup_nil (Nat.le_refl _) (fun k=>by simp [ajp]) (fun acc' x3' x4' h1 h2=>kn _ ?_)
 wide_open with [av8]
 exact ⟨axE _ _,akd.app _ _,by rw [aqo];exact hq _ h1 h2⟩
end
end Mine
namespace Mine
open PySem PySem.W
theorem aVX {xs:List Bs}{k y:Bs}:y∈aqG xs k↔y∈xs∨y=k:=by
 dsimp only [aqG]
 split
 ·rename_i h
  exact ⟨.inl,fun z=>z.elim id (fun e=>e ▸ h)⟩
 ·rw [List.mem_append,List.mem_singleton]
theorem aKd {xs:List Bs}{k:Bs} (h:xs.Nodup):(aqG xs k).Nodup:=by
 dsimp only [aqG]
 split
 ·exact h
 ·rename_i hk
  refine List.nodup_append.mpr ⟨h,by simp,fun a ha b hb=>?_⟩
  rw [List.mem_singleton] at hb
  subst hb
  exact fun e=>hk (e ▸ ha)
theorem aVI (xs:List Bs) (k:Bs):(aqG xs k).length≤xs.length + 1:=by
 dsimp only [aqG]
 split
 ·exact Nat.le_succ _
 ·rw [List.length_append];exact Nat.le_refl _
theorem bzq (a b:Bs):aqL a b=decide (a.take b.length=b):=azi a b
section
variable {l:List MV}{o:List MO}{d:D}{st:MSt}{Q:MV→MSt→Prop}{E:Value→MSt→Prop}
theorem bvS {xs:List Bs}:aZC (.obj o.length) ⟨l,o++[.set xs]⟩=True:=by
 exact eq_true ⟨_,xs,rfl,akx⟩
theorem bJy {xs:List Bs}{k:Bs} (h:xs.length≤1000):aQN [.obj o.length,.bytes k] ⟨l,o++[.set xs]⟩ Q E=Q .none ⟨l,o++[.set (aqG xs k)]⟩:=by
 rw [bky]
 simp only [akx,Option.some.injEq,MO.set.injEq,exists_eq_left',h,true_and,avN]
theorem bkM {xs:List Bs}:ajO (.obj o.length) ⟨l,o++[.set xs]⟩ Q E=Q (.set xs) ⟨l,o++[.dead]⟩:=by
 dsimp only [ajO]
 simp only [akx,avN]
theorem bQ3:bvF [] ⟨l,o⟩ Q E=Q (.obj o.length) ⟨l,o++[.set []]⟩:=rfl
noncomputable abbrev bxS:M MF:=(ifM (bnd (ajk aqz (getL 4) (aj0 (getL 1) (ret [])) azt) aj3) (axO (ajk bZo (getL 2) (aj0 (bnd (aj0 (aje (getL 4) (getL 3) (ret MV.none)) (ret [])) azI) (ret [])) aQN)) (ret MF.next))
theorem aZw {base:Bs} (hb:base.length≤900) {QF:MF→MSt→Prop}:∀ (r p acc:List Bs) (x4:MV),(p++r).length≤900→(∀ k∈r,k.length≤900)→(∀ k∈r,k.take base.length=base→k.take (base.length + 1)=base++[47])→acc.Nodup→acc.length≤p.length→(∀ x,x∈acc↔(base++[47])++x∈p)→
  (∀ acc' x4',acc'.Nodup→acc'.length≤(p++r).length→(∀ x,x∈acc'↔(base++[47])++x∈p++r)→QF .next ⟨[.refs 1,.bytes base,.obj o.length,.int ((base.length:Int) + 1),x4'],o++[.set acc']⟩)→
  aqu (r.map MV.bytes) (ajD 4) bxS ⟨[.refs 1,.bytes base,.obj o.length,.int ((base.length:Int) + 1),x4],o++[.set acc]⟩ QF E
 | [],p,acc,x4,hpr,hk,hs,ha,hal,hg,hq=>by
  rw [List.append_nil] at hq
  exact hq acc x4 ha hal hg
 | e::r,p,acc,x4,hpr,hk,hs,ha,hal,hg,hq=>by
  show aqu (.bytes e::r.map MV.bytes) (ajD 4) bxS _ QF E
  have hel:=hk e (.head _)
  have he:=hs e (.head _)
  have hpl:acc.length≤1000:=by rw [List.length_append] at hpr;walk_at "O"
  have hap:p++e::r=(p++[e])++r:=by simp
  rw [hap] at hpr hq
  refine aJg fun K k1 k2 k3 k4=>?_
  walk_at "T"
  have cutn:axx e (some ((base.length:Int) + 1)) none=e.drop (base.length + 1):=akt e (base.length + 1)
  wide_open with [bzq]
  by_cases ht:e.take base.length=base
  ·wide_open with [decide_eq_true ht,show e.length≤16777216 by walk_at "O",cutn,aXc,bvS,bJy hpl]
   refine k1 _ (aZw hb r (p++[e]) _ _ hpr (fun k z=>hk k (.tail _ z)) (fun k z=>hs k (.tail _ z)) (aKd ha) (by have:=aVI acc (e.drop (base.length + 1));rw [List.length_append,List.length_singleton];walk_at "O") (fun x=>?_) hq)
   have hx:(base++[47])++x=e↔x=e.drop (base.length + 1):=by
    rw [aky,List.length_append,List.length_singleton]
    exact ⟨fun z=>z.2,fun z=>⟨he ht,z⟩⟩
   rw [aVX,hg,List.mem_append,List.mem_singleton,hx]
  ·wide_open with [decide_eq_false ht]
   refine k1 _ (aZw hb r (p++[e]) _ _ hpr (fun k z=>hk k (.tail _ z)) (fun k z=>hs k (.tail _ z)) ha (by rw [List.length_append];walk_at "O") (fun x=>?_) hq)
   rw [hg,List.mem_append,List.mem_singleton]
   refine ⟨.inl,fun z=>z.elim id fun z=>absurd ?_ ht⟩
   subst z
   simp
theorem bq1 {base:Bs} (h:o[1]? = some (.dict (emb d))) (hn:(aj7 d).Nodup) (hl:d.length≤900) (hb:base.length≤900) (hk:∀ k∈aj7 d,k.length≤900) (hs:∀ k∈aj7 d,k.take base.length=base→k.take (base.length + 1)=base++[47])
  (hq:∀ xs,xs.Nodup→(∀ x,x∈xs↔(base++[47])++x∈aj7 d)→xs.length≤d.length→Q (.set xs) ⟨l,o⟩):avA [.refs 1,.bytes base] ⟨l,o⟩ Q E:=by
 have hdl:(aj7 d).length=d.length:=by rw [List.length_map]
 refine aXB rfl ?_
 rw [aqb]
 refine aji fun K kn kr kb kc=>?_
 wide_open with [bQ3]
 refine kn _ ?_
 refine aji fun K kn kr kb kc=>?_
 wide_open with [show base.length≤1099511627776 by walk_at "O"]
 refine kn _ ?_
 refine aji fun K kn kr kb kc=>?_
 wide_open with [akV (axi h) hn (show d.length≤1000 by walk_at "O")]
 intro ys hys
 refine aZw hb ys [] [] .unb (by rw [List.nil_append,hys.length_eq,hdl];exact hl) (fun k z=>hk k (hys.mem_iff.mp z)) (fun k z=>hs k (hys.mem_iff.mp z)) List.nodup_nil (Nat.le_refl _) (fun x=>by simp) (fun acc' x4' h1 h2 h3=>kn _ ?_)
 wide_open with [bkM]
 exact ⟨akd.app _ _,by rw [aqo];exact hq _ h1 (fun x=>by rw [h3,List.nil_append,hys.mem_iff]) (by rw [List.nil_append,hys.length_eq,hdl] at h2;exact h2)⟩
theorem bxt {base:Bs} (h:o[1]? = some (.dict (emb d))) (hn:(aj7 d).Nodup) (hl:d.length≤900) (hb:base.length≤900) (hk:∀ k∈aj7 d,k.length≤900) (hs:∀ k∈aj7 d,k.take base.length=base→k.take (base.length + 1)=base++[47])
  (hq:∀ xs,xs.Nodup→(∀ x,x∈xs↔(base++[47])++x∈aj7 d)→xs.length≤d.length→Q (.set xs) ⟨l,o⟩):ax2 [.refs 1,.bytes base] ⟨l,o⟩ Q E:=by
 unfold ax2 fnM aQJ
 wide_open with [aq3,ajE]
 refine bq1 h hn hl hb hk hs fun xs h1 h2 h3=>?_
 exact ⟨by trivial,akd.same _,by rw [ake];exact hq xs h1 h2 h3⟩
theorem bq6 (h:o[1]? = some (.dict (emb d))) (hn:(aj7 d).Nodup) (hl:d.length≤900):av4 [.refs 1] ⟨l,o⟩ Q E=Q (.set (aj7 d)) ⟨l,o⟩:=by
 unfold av4 aQJ
 wide_open with [aq3,ajE,akV h hn (show d.length≤1000 by walk_at "O")]
theorem bvo (h:o[1]? = some (.dict (emb d))) (hn:(aj7 d).Nodup) (hl:d.length≤900):ax2 [.refs 1,.none] ⟨l,o⟩ Q E=Q (.set (aj7 d)) ⟨l,o⟩:=by
 unfold ax2 fnM aQJ
 wide_open with [aq3,ajE,akV h hn (show d.length≤1000 by walk_at "O")]
theorem bKQ {bs:List Bs} (h:bs.length < 64) {QM:MV→MSt→Prop} (hq:∀ ys:List Bs,ys.Perm bs→ys.Pairwise bLe→QM (.list (ys.map MV.bytes)) st):bjG bs st QM E:=⟨h,hq⟩
theorem aJv {xs ys:List Bs} (hp:xs.Perm ys) (hx:xs.Pairwise bLe) (hy:ys.Pairwise bLe):xs=ys:=by
 refine List.Perm.eq_of_pairwise (fun a b _ _ h1 h2=>?_) hx hy hp
 exact bkh (List.le_antisymm (List.not_lt.mp h1) (List.not_lt.mp h2))
theorem axH:∀ xs:List Bs,aJc (xs.map MV.bytes) (xs.map MV.bytes)=some true
 | []=>rfl
 | x::xs=>by
  show bJG (some (decide (x=x))) (aJc (xs.map MV.bytes) (xs.map MV.bytes))=_
  rw [axH xs,decide_eq_true rfl];rfl
theorem avz:∀ xs:List Bs,bzJ (xs.map MV.bytes)=0
 | []=>rfl
 | x::xs=>(congrArg (max 0) (avz xs)).trans rfl
theorem aZq (xs:List Bs):mNe (.list (xs.map MV.bytes)) (.list (xs.map MV.bytes)) st Q E=Q (.bool false) st:=by
 have e:aVb (.list (xs.map MV.bytes)) (.list (xs.map MV.bytes))=some true:=axH xs
 have e2:mvD (.list (xs.map MV.bytes))≤8:=by show bzJ _ + 1≤8;rw [avz];decide
 exact bQj e e2
end
end Mine
namespace Mine
open PySem PySem.W
section
variable {l:List MV}{o:List MO}{d:D}{st:MSt}{Q:MV→MSt→Prop}{E:Value→MSt→Prop}
noncomputable abbrev bzk:M MF:=(aVE (az9 (ajs (getL 0) (bnd (aj0 (ajk aqz (ajs (ajs (getL 4) (ret (MV.bytes [47])) akc) (getL 5) akc) (aj0 (ret (MV.bytes [47])) (ret [])) aVf) (ret [])) azI) (aQM azq)) (getL 2) (getL 5) aQX) (aq0 [(aVG,(ret MF.cont))]) (ret MF.next))
theorem bQw:(aVD,true)∈aVG:=by exact .tail _ (.head _)
theorem bQv:(akG,true)∈aVG:=by exact .tail _ (.tail _ (.tail _ (.head _)))
theorem aJp {x1:MV}{bb pre:Bs}{ks:List Bs} (h:o[1]? = some (.dict (emb d))) (hn:(aj7 d).Nodup) (hv:okV d) (hbb:bb.length≤100) {QF:MF→MSt→Prop}:∀ (r p:List Bs) (acc:D) (x5:MV),(p++r).length≤900→(∀ k∈r,ajy true true [47] (bb++[47]++k)=pre++k∧(pre++k).length≤900)→(aj7 acc).Nodup→acc.length≤p.length→(∀ k,ajp acc k=if k∈p then aZT d (pre++k) else none)→
  (∀ acc' x5',(aj7 acc').Nodup→(∀ k,ajp acc' k=if k∈p++r then aZT d (pre++k) else none)→QF .next ⟨[.refs 1,x1,.obj o.length,.set ks,.bytes bb,x5'],o++[.dict (emb acc')]⟩)→
  aqu (r.map MV.bytes) (ajD 5) bzk ⟨[.refs 1,x1,.obj o.length,.set ks,.bytes bb,x5],o++[.dict (emb acc)]⟩ QF E
 | [],p,acc,x5,hpr,hk,ha,hal,hg,hq=>by
  rw [List.append_nil] at hq
  exact hq acc x5 ha hg
 | e::r,p,acc,x5,hpr,hk,ha,hal,hg,hq=>by
  show aqu (.bytes e::r.map MV.bytes) (ajD 5) bzk _ QF E
  obtain ⟨hst,hel⟩:=hk e (.head _)
  have hap:p++e::r=(p++[e])++r:=by simp
  rw [hap] at hpr hq
  have hacc:acc.length≤1000:=by rw [List.length_append,List.length_append] at hpr;walk_at "O"
  have hel2:e.length≤900:=by rw [List.length_append] at hel;walk_at "O"
  refine aJg fun K k1 k2 k3 k4=>?_
  walk_at "T"
  have miss:aZT d (pre++e)=none→aqu (r.map MV.bytes) (ajD 5) bzk ⟨[.refs 1,x1,.obj o.length,.set ks,.bytes bb,.bytes e],o++[.dict (emb acc)]⟩ QF E:=fun hm=>by
   refine aJp h hn hv hbb r (p++[e]) acc _ hpr (fun k z=>hk k (.tail _ z)) ha (by rw [List.length_append];walk_at "O") (fun k=>?_) hq
   rw [hg k]
   by_cases z:k=e
   ·subst z
    rw [hm]
    simp
   ·simp [z]
  have hadd1:bb.length + ([47]:Bs).length≤16777216:=by show bb.length + 1≤_;walk_at "O"
  have hadd2:(bb++[47]).length + e.length≤16777216:=by rw [List.length_append,List.length_singleton];walk_at "O"
  have hadd3:(bb++[47]++e).length≤16777216:=by rw [List.length_append];exact hadd2
  wide_open with [aQt,hadd1,hadd2,hadd3,hst,aXc]
  refine aKa (axi h) hn hv hel (fun ns v hce=>?_) (fun ns hce=>?_) (fun hce=>?_)
  ·wide_open with [dsN ha hacc]
   refine k1 _ (aJp h hn hv hbb r (p++[e]) _ _ hpr (fun k z=>hk k (.tail _ z)) (azh ha _ _) (by have:=axr acc e v;rw [List.length_append,List.length_singleton];walk_at "O") (fun k=>?_) hq)
   rw [ak6,hg k]
   by_cases z:k=e
   ·subst z
    rw [if_pos rfl,if_pos (by simp)]
    unfold aZT
    rw [hce]
   ·rw [if_neg z]
    simp [z]
  ·refine ⟨true,bQw,?_⟩
   exact k2 _ (miss (by unfold aZT;rw [hce]))
  ·refine ⟨true,bQv,?_⟩
   exact k2 _ (miss (by unfold aZT;rw [hce]))
theorem bq7 {base:Bs} (h:o[1]? = some (.dict (emb d))) (hn:(aj7 d).Nodup) (hv:okV d) (hl:d.length≤900) (hb:base.length≤100) (hbs:base.head?≠some 47) (hbe:ajy false true [47] base=base) (hb0:base≠[]) (hk:∀ k∈aj7 d,k.length≤900) (hse:∀ k∈aj7 d,k.getLast?≠some 47) (hs:∀ k∈aj7 d,k.take base.length=base→k.take (base.length + 1)=base++[47])
  (hq:∀ acc,(aj7 acc).Nodup→(∀ k,ajp acc k=if (base++[47])++k∈aj7 d then aZT d ((base++[47])++k) else none)→Q (.dict (emb acc)) ⟨l,o⟩):axq [.refs 1,.bytes base] ⟨l,o⟩ Q E:=by
 refine aXB rfl ?_
 rw [aqb]
 refine aji fun K kn kr kb kc=>?_
 wide_open with []
 refine kn _ ?_
 refine aji fun K kn kr kb kc=>?_
 wide_open with []
 refine bxt (axi h) hn hl (by walk_at "O") hk hs (fun xs h1 h2 h3=>?_)
 wide_open with []
 refine kn _ ?_
 refine aji fun K kn kr kb kc=>?_
 rw [aK4]
 refine kn _ ?_
 refine aji fun K kn kr kb kc=>?_
 wide_open with [aq3,ajE,show base.length≤16777216 by walk_at "O",hbe]
 refine kn _ ?_
 refine aji fun K kn kr kb kc=>?_
 wide_open with []
 intro ys hys
 have hmem:∀ k,k∈ys↔(base++[47])++k∈aj7 d:=fun k=>by rw [hys.mem_iff,h2]
 refine aJp (pre:=base++[47]) h hn hv (by walk_at "O") ys [] [] .unb (by rw [List.nil_append,hys.length_eq];walk_at "O") (fun k z=>?_) List.nodup_nil (Nat.le_refl _) (fun k=>by simp [ajp]) (fun acc' x5' h4 h5=>kn _ ?_)
 ·have hm:=(hmem k).mp z
  refine ⟨aJt ?_ (hse _ hm),hk _ hm⟩
  cases base with
  | nil=>exact absurd rfl hb0
  | cons a base=>exact hbs
 ·wide_open with [av8]
  refine ⟨axE _ _,akd.app _ _,?_⟩
  rw [aqo]
  refine hq _ h4 (fun k=>?_)
  rw [h5 k,List.nil_append]
  by_cases z:k∈ys
  ·rw [if_pos z,if_pos ((hmem k).mp z)]
  ·rw [if_neg z,if_neg (fun q=>z ((hmem k).mpr q))]
theorem aVS (h:o[1]? = some (.dict (emb d))) (hn:(aj7 d).Nodup) (hv:okV d) (hl:d.length≤900) (hk:∀ k∈aj7 d,k.length≤900) (hss:∀ k∈aj7 d,k.head?≠some 47) (hse:∀ k∈aj7 d,k.getLast?≠some 47)
  (hq:∀ acc,(aj7 acc).Nodup→(∀ k,ajp acc k=if []++k∈aj7 d then aZT d ([]++k) else none)→Q (.dict (emb acc)) ⟨l,o⟩):akl [.refs 1] ⟨l,o⟩ Q E:=by
 have hdl:(aj7 d).length=d.length:=by rw [List.length_map]
 refine aXB rfl ?_
 rw [aqb]
 refine aji fun K kn kr kb kc=>?_
 wide_open with []
 refine kn _ ?_
 refine aji fun K kn kr kb kc=>?_
 wide_open with [bvo (axi h) hn hl]
 refine kn _ ?_
 refine aji fun K kn kr kb kc=>?_
 rw [aK4]
 refine kn _ ?_
 refine aji fun K kn kr kb kc=>?_
 wide_open with [aq3,ajE]
 refine kn _ ?_
 refine aji fun K kn kr kb kc=>?_
 wide_open with []
 intro ys hys
 refine aJp (pre:=[]) h hn hv (by decide) ys [] [] .unb (by rw [List.nil_append,hys.length_eq,hdl];exact hl) (fun k z=>?_) List.nodup_nil (Nat.le_refl _) (fun k=>by simp [ajp]) (fun acc' x5' h4 h5=>kn _ ?_)
 ·have hm:=hys.mem_iff.mp z
  exact ⟨aX0 (hss _ hm) (hse _ hm),hk _ hm⟩
 ·wide_open with [av8]
  refine ⟨axE _ _,akd.app _ _,?_⟩
  rw [aqo]
  refine hq _ h4 (fun k=>?_)
  rw [h5 k,List.nil_append,List.nil_append]
  by_cases z:k∈ys
  ·rw [if_pos z,if_pos (hys.mem_iff.mp z)]
  ·rw [if_neg z,if_neg (fun q=>z (hys.mem_iff.mpr q))]
noncomputable def axv (d:D) (k:Bs):Option Bs:=match ajp d k with
 | some v=>if v.take 5=akb then some (v.drop 5) else none
 | none=>none
noncomputable abbrev bxR:M MF:=(aVE (ajc (aqc (ajk ajK (getL 0) (aj0 (getL 2) (ret [])) aq4) 3)
 (ajc (bnd (ajh (getL 3) (ret MV.none) ajI aj3) fun b=>aqg (b=true) (ret MF.next))
 (aqc (bnd (aj0 (getL 3) (ret [])) ajm) 4))) (aq0 [(aKZ,(ret MF.next))]) (az9 (bnd (aj0 (getL 4) (ret [])) azI) (getL 1) (getL 2) aQX))
theorem aZv (h:o[1]? = some (.dict (emb d))) (hn:(aj7 d).Nodup) (hv:okV d) (hs:∀ e∈d,e.2.take 5=akb→ajy false true [13,10] (e.2.drop 5)=e.2.drop 5) {QF:MF→MSt→Prop}:∀ (r p:List Bs) (acc:D) (x2 x3 x4:MV),(p++r).length≤900→(∀ k∈r,k∈aj7 d)→(aj7 acc).Nodup→acc.length≤p.length→(∀ k,ajp acc k=if k∈p then axv d k else none)→
  (∀ acc' x2' x3' x4',(aj7 acc').Nodup→(∀ k,ajp acc' k=if k∈p++r then axv d k else none)→QF .next ⟨[.refs 1,.obj o.length,x2',x3',x4'],o++[.dict (emb acc')]⟩)→
  aqu (r.map MV.bytes) (ajD 2) bxR ⟨[.refs 1,.obj o.length,x2,x3,x4],o++[.dict (emb acc)]⟩ QF E
 | [],p,acc,x2,x3,x4,hpr,hk,ha,hal,hg,hq=>by
  rw [List.append_nil] at hq
  exact hq acc x2 x3 x4 ha hg
 | e::r,p,acc,x2,x3,x4,hpr,hk,ha,hal,hg,hq=>by
  show aqu (.bytes e::r.map MV.bytes) (ajD 2) bxR _ QF E
  have hem:=hk e (.head _)
  have hap:p++e::r=(p++[e])++r:=by simp
  rw [hap] at hpr hq
  have hacc:acc.length≤1000:=by rw [List.length_append,List.length_append] at hpr;walk_at "O"
  obtain ⟨v,hgv⟩:∃ v,ajp d e=some v:=by
   cases hz:ajp d e with
   | none=>exact absurd hem (az1.mp hz)
   | some v=>exact ⟨v,rfl⟩
  obtain ⟨v1,v2⟩:=akY hv hgv
  refine aJg fun K k1 k2 k3 k4=>?_
  walk_at "T"
  wide_open with [aQt,avx (axi h) hn hv,hgv,aq3,ajE,aXa v2]
  by_cases ht:v.take 5=akb
  ·have hlv:axv d e=some (v.drop 5):=by unfold axv;rw [hgv];exact if_pos ht
   rw [if_pos ht,hs (e,v) (aJs hgv) ht]
   wide_open with [aXc,dsN ha hacc]
   refine k1 _ (aZv h hn hv hs r (p++[e]) _ _ _ _ hpr (fun k z=>hk k (.tail _ z)) (azh ha _ _) (by have:=axr acc e (v.drop 5);rw [List.length_append,List.length_singleton];walk_at "O") (fun k=>?_) hq)
   rw [ak6,hg k]
   by_cases z:k=e
   ·subst z
    rw [if_pos rfl,if_pos (by simp),hlv]
   ·rw [if_neg z]
    simp [z]
  ·have hlv:axv d e=none:=by unfold axv;rw [hgv];exact if_neg ht
   rw [if_neg ht]
   refine ⟨true,bZl,?_⟩
   refine k1 _ (aZv h hn hv hs r (p++[e]) _ _ _ _ hpr (fun k z=>hk k (.tail _ z)) ha (by rw [List.length_append];walk_at "O") (fun k=>?_) hq)
   rw [hg k]
   by_cases z:k=e
   ·subst z
    rw [hlv]
    simp
   ·simp [z]
theorem bq0 (h:o[1]? = some (.dict (emb d))) (hn:(aj7 d).Nodup) (hv:okV d) (hl:d.length≤900) (hs:∀ e∈d,e.2.take 5=akb→ajy false true [13,10] (e.2.drop 5)=e.2.drop 5)
  (hq:∀ acc,(aj7 acc).Nodup→(∀ k,ajp acc k=axv d k)→Q (.dict (emb acc)) ⟨l,o⟩):aqX [.refs 1] ⟨l,o⟩ Q E:=by
 have hdl:(aj7 d).length=d.length:=by rw [List.length_map]
 refine aXB rfl ?_
 rw [aqb]
 refine aji fun K kn kr kb kc=>?_
 wide_open with []
 refine kn _ ?_
 refine aji fun K kn kr kb kc=>?_
 wide_open with [akV (axi h) hn (show d.length≤1000 by walk_at "O")]
 intro ys hys
 refine aZv h hn hv hs ys [] [] .unb .unb .unb (by rw [List.nil_append,hys.length_eq,hdl];exact hl) (fun k z=>hys.mem_iff.mp z) List.nodup_nil (Nat.le_refl _) (fun k=>by simp [ajp]) (fun acc' x2' x3' x4' h4 h5=>kn _ ?_)
 wide_open with [av8]
 refine ⟨axE _ _,akd.app _ _,?_⟩
 rw [aqo]
 refine hq _ h4 (fun k=>?_)
 rw [h5 k,List.nil_append]
 by_cases z:k∈ys
 ·rw [if_pos z]
 ·rw [if_neg z]
  have:ajp d k=none:=az1.mpr (fun q=>z (hys.mem_iff.mpr q))
  unfold axv
  rw [this]
end
end Mine
namespace Mine
open PySem PySem.W
noncomputable abbrev aQQ:UInt8→Bool:=fun c=>decide (c=47)
noncomputable def rsP (p:UInt8→Bool) (x:Bs):Bs:=(x.reverse.dropWhile p).reverse
noncomputable def nm (x:Bs):Bs:=(rsP aQQ x).dropWhile aQQ
noncomputable def aJ3:List Bs:=[[114,101,102,115,47,104,101,97,100,115],[114,101,102,115,47,116,97,103,115]]
noncomputable def okS (s:Bs):Prop:=∀ c∈s,c≠104∧c≠116∧c≠114
noncomputable def bkm (x:Bs):Prop:=x.length≤200∧(x∈azp∨∃ f∈azW,∃ s,x=f++s∧okS s)
structure bx9 (k:Bs):Prop where
 len:k.length≤200
 head:k.head?≠some 47
 last:k.getLast?≠some 47
 base:∀ b∈aJ3,k.take b.length=b→k.take (b.length + 1)=b++[47]
theorem ak0 (p:UInt8→Bool) (x:Bs):rsP p x <+: x:=by
 have:=List.dropWhile_suffix p (l:=x.reverse)
 have h2:=List.reverse_prefix.mpr this
 rwa [List.reverse_reverse] at h2
theorem azV (p:UInt8→Bool) (a:UInt8):∀ x:Bs,(x.dropWhile p).head? = some a→p a=false
 | [],h=>by cases h
 | b::x,h=>by
  rw [List.dropWhile_cons] at h
  split at h
  ·exact azV p a x h
  ·rename_i hb
   cases h
   simpa using hb
theorem axD (p:UInt8→Bool):∀ x:Bs,x.dropWhile p=[]∨(x.dropWhile p).getLast? = x.getLast?
 | []=>.inl rfl
 | b::x=>by
  rw [List.dropWhile_cons]
  split
  ·rcases axD p x with h | h
   ·exact .inl h
   ·cases x with
    | nil=>exact .inl rfl
    | cons c x=>right;rw [h];simp [List.getLast?_cons_cons]
  ·exact .inr rfl
theorem bvx (x:Bs):(nm x).head?≠some 47:=fun h=>by
 have:=azV aQQ 47 _ h
 cases this
theorem bvh (x:Bs):(rsP aQQ x).getLast?≠some 47:=fun h=>by
 unfold rsP at h
 rw [List.getLast?_reverse] at h
 have:=azV aQQ 47 _ h
 cases this
theorem bqk (x:Bs):(nm x).getLast?≠some 47:=by
 rcases axD aQQ (rsP aQQ x) with h | h
 ·unfold nm;rw [h];simp
 ·unfold nm;rw [h];exact bvh x
theorem aKe (x:Bs):nm x <:+ rsP aQQ x:=List.dropWhile_suffix _
theorem bqj (x:Bs):(nm x).length≤x.length:=Nat.le_trans (aKe x).length_le (ak0 aQQ x).length_le
theorem bQi {x:Bs}{c:UInt8} (h:c∈nm x):c∈x:=(ak0 aQQ x).subset ((aKe x).subset h)
theorem bqi {x:Bs} (h:x.head?≠some 47):nm x <+: x:=by
 have hp:=ak0 aQQ x
 have:nm x=rsP aQQ x:=by
  unfold nm
  cases hr:rsP aQQ x with
  | nil=>rfl
  | cons a y=>
   rw [hr] at hp
   obtain ⟨z,rfl⟩:=hp
   have:a≠47:=fun e=>h (by rw [e];rfl)
   rw [List.dropWhile_cons,if_neg (by simpa using this)]
 rw [this]
 exact hp
theorem bzm {x:Bs}{b:Bs} (hx:x.head?≠some 47) (hb:ajN b=false) (hr:ajN (nm x)=true) (h:x.take b.length=b→x.take (b.length + 1)=b++[47]) (ht:(nm x).take b.length=b):(nm x).take (b.length + 1)=b++[47]:=by
 obtain ⟨z,hz⟩:=bqi hx
 have hle:b.length≤(nm x).length:=by
  have:=congrArg List.length ht
  rw [List.length_take] at this
  walk_at "O"
 have h1:x.take b.length=b:=by
  rw [← hz,List.take_append_of_le_length hle]
  exact ht
 have h2:=h h1
 by_cases hl:(nm x).length=b.length
 ·rw [← hl,List.take_length] at ht
  rw [ht,hb] at hr
  cases hr
 ·rw [← hz,List.take_append_of_le_length (by walk_at "O")] at h2
  exact h2
theorem bJz {f s b:Bs} (h:b.length≤f.length):(f++s).take b.length=f.take b.length:=List.take_append_of_le_length h
theorem aKw {x:Bs} (hm:bkm x) (hr:ajN (nm x)=true):bx9 (nm x):=by
 obtain ⟨hl,hm⟩:=hm
 refine ⟨Nat.le_trans (bqj x) hl,bvx x,bqk x,fun b hb ht=>?_⟩
 have hb2:ajN b=false:=by
  have:∀ b∈aJ3,ajN b=false:=by decide
  exact this b hb
 rcases hm with hm | ⟨f,hf,s,rfl,hs⟩
 ·have:∀ x∈azp,∀ b∈aJ3,(nm x).take b.length=b→(nm x).take (b.length + 1)=b++[47]:=by decide
  exact this x hm b hb ht
 ·have hcase:f=[]∨((f++s).head?≠some 47∧((f++s).take b.length=b→(f++s).take (b.length + 1)=b++[47])):=by
   simp only [azW,List.mem_cons,List.not_mem_nil,or_false] at hf
   simp only [aJ3,List.mem_cons,List.not_mem_nil,or_false] at hb
   rcases hf with rfl | rfl | rfl | rfl | rfl
   ·right
    refine ⟨by simp,fun h=>?_⟩
    rcases hb with rfl | rfl
    ·rfl
    ·exact absurd h (by simp)
   ·right
    refine ⟨by simp,fun h=>?_⟩
    rcases hb with rfl | rfl
    ·have:(104:UInt8)∈s:=by
      cases s with
      | nil=>simp at h
      | cons c s=>simp at h;rw [h.1];exact .head _
     exact absurd rfl (hs _ this).1
    ·have:(116:UInt8)∈s:=by
      cases s with
      | nil=>simp at h
      | cons c s=>simp at h;rw [h.1];exact .head _
     exact absurd rfl (hs _ this).2.1
   ·exact .inl rfl
   ·right
    refine ⟨by simp,fun h=>?_⟩
    rcases hb with rfl | rfl
    ·exact absurd h (by simp)
    ·rfl
   ·right
    refine ⟨by simp,fun h=>?_⟩
    rcases hb with rfl | rfl<;>exact absurd h (by simp)
  rcases hcase with rfl | ⟨h1,h2⟩
  ·have h114:(114:UInt8)∈nm ([]++s):=by
    have:(114:UInt8)∈(nm ([]++s)).take b.length:=by
     rw [ht]
     simp only [aJ3,List.mem_cons,List.not_mem_nil,or_false] at hb
     rcases hb with rfl | rfl<;>simp
    exact List.mem_of_mem_take this
   exact absurd rfl (hs _ (bQi h114)).2.2
  ·exact bzm h1 hb2 hr h2 ht
theorem bkV {α : Type} (b:List α):axx b (some (-1)) none=b.drop (b.length - 1):=by
 unfold axx
 have h:(some (-1:Int)).elim 0 (clipAt b.length)=b.length - 1:=by
  show clipAt b.length (-1)=_
  unfold clipAt
  simp
  walk_at "O"
 rw [h]
 show (b.drop _).take (b.length - _)=_
 rw [List.take_of_length_le]
 rw [List.length_drop];exact Nat.le_refl _
theorem bkW {α : Type} (b:List α):axx b none (some (-1))=b.take (b.length - 1):=by
 unfold axx
 have h:(some (-1:Int)).elim b.length (clipAt b.length)=b.length - 1:=by
  show clipAt b.length (-1)=_
  unfold clipAt
  simp
  walk_at "O"
 rw [h]
 rfl
theorem avZ:axx ([]:Bs) (some (-1)) none=[]:=rfl
theorem aJ0 (y:Bs) (c:UInt8):axx (y++[c]) (some (-1)) none=[c]:=by
 rw [bkV,List.length_append,List.length_singleton,Nat.add_sub_cancel,List.drop_left]
theorem aJ1 (y:Bs) (c:UInt8):axx (y++[c]) none (some (-1))=y:=by
 rw [bkW,List.length_append,List.length_singleton,Nat.add_sub_cancel,List.take_left]
section
variable {Q:MF→MSt→Prop}{E:Value→MSt→Prop}
theorem avr {p:UInt8→Bool}{c:M Bool}{b:M MF}{S:Bs→MSt}{E:Value→MSt→Prop} (h0:∀ QB:Bool→MSt→Prop,QB false (S [])→c (S []) QB E) (hc:∀ y a,(y++[a]).length≤1000→∀ QB:Bool→MSt→Prop,QB (p a) (S (y++[a]))→c (S (y++[a])) QB E) (hb:∀ y a,(y++[a]).length≤1000→∀ QF:MF→MSt→Prop,QF .next (S y)→b (S (y++[a])) QF E) :
  ∀ r:Bs,r.length≤1000→Q .next (S (r.dropWhile p).reverse)→∃ n,akK n c b (S r.reverse) Q E
 | [],_,hq=>⟨1,by rw [azz];exact h0 _ hq⟩
 | a::r,hl,hq=>by
  have hl':(r.reverse++[a]).length≤1000:=by rw [← List.reverse_cons,List.length_reverse];exact hl
  rw [List.reverse_cons]
  rw [List.dropWhile_cons] at hq
  cases hp:p a with
  | true=>
   rw [hp,if_pos rfl] at hq
   obtain ⟨n,hn⟩:=avr h0 hc hb r (by rw [List.length_cons] at hl;walk_at "O") hq
   refine ⟨n + 1,?_⟩
   rw [azz]
   refine hc _ _ hl' _ ?_
   rw [hp]
   exact hb _ _ hl' _ hn
  | false=>
   rw [hp,if_neg (by decide),List.reverse_cons] at hq
   refine ⟨1,?_⟩
   rw [azz]
   refine hc _ _ hl' _ ?_
   rw [hp]
   exact hq
theorem aQs {p:UInt8→Bool}{c:M Bool}{b:M MF}{S:Bs→MSt}{E:Value→MSt→Prop} (h0:∀ QB:Bool→MSt→Prop,QB false (S [])→c (S []) QB E) (hc:∀ y a,(a::y).length≤1000→∀ QB:Bool→MSt→Prop,QB (p a) (S (a::y))→c (S (a::y)) QB E) (hb:∀ y a,(a::y).length≤1000→∀ QF:MF→MSt→Prop,QF .next (S y)→b (S (a::y)) QF E) :
  ∀ r:Bs,r.length≤1000→Q .next (S (r.dropWhile p))→∃ n,akK n c b (S r) Q E
 | [],_,hq=>⟨1,by rw [azz];exact h0 _ hq⟩
 | a::r,hl,hq=>by
  rw [List.dropWhile_cons] at hq
  cases hp:p a with
  | true=>
   rw [hp,if_pos rfl] at hq
   obtain ⟨n,hn⟩:=aQs h0 hc hb r (by rw [List.length_cons] at hl;walk_at "O") hq
   refine ⟨n + 1,?_⟩
   rw [azz]
   refine hc _ _ hl _ ?_
   rw [hp]
   exact hb _ _ hl _ hn
  | false=>
   rw [hp,if_neg (by decide)] at hq
   refine ⟨1,?_⟩
   rw [azz]
   refine hc _ _ hl _ ?_
   rw [hp]
   exact hq
end
end Mine
namespace Mine
open PySem PySem.W
section
variable {l:List MV}{o:List MO}{d:D}{st:MSt}{Q:MV→MSt→Prop}{E:Value→MSt→Prop}{K:MF→MSt→Prop}{x0 x1 x2 x3 x4 x5 x6 x7 x8 x9 x10 x11 x12 x13 x14 x15 x16 x17 x18 x19 x20 x21 x22 x23:MV}
theorem axc {n:Int}{m:Nat} (hm:0 < m):∃ r:Nat,r < m∧n.fmod (m:Int)=(r:Int):=by
 have h1:=Int.fmod_nonneg_of_pos n (show (0:Int) < (m:Int) by walk_at "O")
 have h2:=Int.fmod_lt_of_pos n (show (0:Int) < (m:Int) by walk_at "O")
 exact ⟨(n.fmod (m:Int)).toNat,by walk_at "O",(Int.toNat_of_nonneg h1).symm⟩
noncomputable abbrev bzI (m:Int) (k:Nat) (src:Nat):M MF:=(bnd (bnd (aj0 (getL src) (aj0 (ret (MV.int m)) (ret []))) akn) fun a=>bnd (azm (fun xs=>gE xs 2 ((ajg (ajD 4) (ajg (ajD k) aqj)) xs)) a) fun _=>ret MF.next)
theorem bZW {n:Int} (h:∀ (q:Int) (r:Nat),r < 9→K .next ⟨[x0,x1,x2,.int n,.int q,.int r,x6,x7,x8,x9,x10,x11,x12,x13,x14,x15,x16,x17,x18,x19,x20,x21,x22,x23],o⟩):bzI 9 5 3 ⟨[x0,x1,x2,.int n,x4,x5,x6,x7,x8,x9,x10,x11,x12,x13,x14,x15,x16,x17,x18,x19,x20,x21,x22,x23],o⟩ K E:=by
 refine ajl (axc (n:=n) (m:=9) (by decide)) fun r hr he=>?_
 have he':n.fmod 9=(r:Int):=he
 wide_open with [List.length_cons,List.length_nil,he',Int.reduceEq]
 exact h _ r hr
theorem bZV {n:Int} (h:∀ (q:Int) (r:Nat),r < 14→K .next ⟨[x0,x1,x2,x3,.int q,x5,.int r,x7,x8,x9,x10,x11,x12,x13,x14,x15,x16,x17,x18,x19,x20,x21,x22,x23],o⟩):bzI 14 6 4 ⟨[x0,x1,x2,x3,.int n,x5,x6,x7,x8,x9,x10,x11,x12,x13,x14,x15,x16,x17,x18,x19,x20,x21,x22,x23],o⟩ K E:=by
 refine ajl (axc (n:=n) (m:=14) (by decide)) fun r hr he=>?_
 have he':n.fmod 14=(r:Int):=he
 wide_open with [List.length_cons,List.length_nil,he',Int.reduceEq]
 exact h _ r hr
theorem bZU {n:Int} (h:∀ (q:Int) (r:Nat),r < 11→K .next ⟨[x0,x1,x2,x3,.int q,x5,x6,.int r,x8,x9,x10,x11,x12,x13,x14,x15,x16,x17,x18,x19,x20,x21,x22,x23],o⟩):bzI 11 7 4 ⟨[x0,x1,x2,x3,.int n,x5,x6,x7,x8,x9,x10,x11,x12,x13,x14,x15,x16,x17,x18,x19,x20,x21,x22,x23],o⟩ K E:=by
 refine ajl (axc (n:=n) (m:=11) (by decide)) fun r hr he=>?_
 have he':n.fmod 11=(r:Int):=he
 wide_open with [List.length_cons,List.length_nil,he',Int.reduceEq]
 exact h _ r hr
theorem bZT {n:Int} (h:∀ (q:Int) (r:Nat),r < 9→K .next ⟨[x0,x1,x2,x3,.int q,x5,x6,x7,.int r,x9,x10,x11,x12,x13,x14,x15,x16,x17,x18,x19,x20,x21,x22,x23],o⟩):bzI 9 8 4 ⟨[x0,x1,x2,x3,.int n,x5,x6,x7,x8,x9,x10,x11,x12,x13,x14,x15,x16,x17,x18,x19,x20,x21,x22,x23],o⟩ K E:=by
 refine ajl (axc (n:=n) (m:=9) (by decide)) fun r hr he=>?_
 have he':n.fmod 9=(r:Int):=he
 wide_open with [List.length_cons,List.length_nil,he',Int.reduceEq]
 exact h _ r hr
theorem bQh {n:Int} (h:∀ (q:Int) (r:Nat),r < 48→K .next ⟨[x0,x1,x2,x3,.int q,x5,x6,x7,x8,x9,x10,.int r,x12,x13,x14,x15,x16,x17,x18,x19,x20,x21,x22,x23],o⟩):bzI 48 11 4 ⟨[x0,x1,x2,x3,.int n,x5,x6,x7,x8,x9,x10,x11,x12,x13,x14,x15,x16,x17,x18,x19,x20,x21,x22,x23],o⟩ K E:=by
 refine ajl (axc (n:=n) (m:=48) (by decide)) fun r hr he=>?_
 have he':n.fmod 48=(r:Int):=he
 wide_open with [List.length_cons,List.length_nil,he',Int.reduceEq]
 exact h _ r hr
noncomputable def mkN (pick:Nat) (x:Bs):Prop:=if pick < 9 then x∈azp else ∃ f∈azW,∃ s,x=f++s∧okS s
noncomputable abbrev bQn:M MF:=(aqc (ifM (ajh (getL 6) (ret (MV.int 9)) mLt aj3) (ajs (bnd (ret []) aqw) (getL 6) ajG) (ajs (bnd (ret []) aze) (ajs (getL 6) (ret (MV.int 9)) bvE) ajG)) 9)
theorem azM {L:List Bs}{i:Nat} (h:i < L.length):L.getD i []∈L:=by
 rw [List.getD_eq_getElem?_getD,List.getElem?_eq_getElem h]
 exact List.getElem_mem h
theorem bqV {x:Bs} (h:x∈azW):x.length≤12:=by
 have:∀ x∈azW,x.length≤12:=by decide
 exact this x h
theorem aV9 {x:Bs} (h:x∈azp):x.length≤20:=by
 have:∀ x∈azp,x.length≤20:=by decide
 exact this x h
theorem bvB {pick:Nat} (hp:pick < 14) (h:∀ x,mkN pick x→x.length≤20→K .next ⟨[x0,x1,x2,x3,x4,x5,.int pick,x7,x8,.bytes x,x10,x11,x12,x13,x14,x15,x16,x17,x18,x19,x20,x21,x22,x23],o⟩):bQn ⟨[x0,x1,x2,x3,x4,x5,.int pick,x7,x8,x9,x10,x11,x12,x13,x14,x15,x16,x17,x18,x19,x20,x21,x22,x23],o⟩ K E:=by
 by_cases h9:pick < 9
 ·have hd:decide ((pick:Int) < 9)=true:=decide_eq_true (by walk_at "O")
  wide_open with [hd,bq5]
  refine ⟨_,akp (L:=azp) h9,by decide,?_⟩
  wide_open with []
  have hm:=azM (L:=azp) (i:=pick) h9
  exact h _ (by unfold mkN;rw [if_pos h9];exact hm) (aV9 hm)
 ·have hd:decide ((pick:Int) < 9)=false:=decide_eq_false (by walk_at "O")
  have e:(pick:Int) - 9=((pick - 9:Nat):Int):=by walk_at "O"
  have h5:pick - 9 < azW.length:=by show _ < 5;walk_at "O"
  wide_open with [hd,bkc,e]
  refine ⟨_,akp (L:=azW) h5,by decide,?_⟩
  wide_open with []
  have hm:=azM (L:=azW) (i:=pick - 9) h5
  exact h _ (by unfold mkN;rw [if_neg h9];exact ⟨_,hm,[],by simp,fun c hc=>nomatch hc⟩) (Nat.le_trans (bqV hm) (by decide))
theorem aZf {p:Bs} (h:p∈azQ):okS p∧p.length≤5:=by
 have:∀ p∈azQ,(∀ c∈p,c≠104∧c≠116∧c≠114)∧p.length≤5:=by decide
 exact this p h
noncomputable abbrev bxs:M MF:=(aqc (ajs (getL 9) (ifM (ajh (getL 11) (ret (MV.int 20)) mLt aj3) (ajs (bnd (ret []) ajJ) (getL 11) ajG) (ifM (ajh (getL 11) (ret (MV.int 23)) mLt aj3) (ajs (bnd (ret []) ajJ) (ajs (ret (MV.int 20)) (ajs (getL 4) (ret (MV.int 9)) aXn) akc) ajG) (ifM (ajh (getL 11) (ret (MV.int 26)) mLt aj3) (bnd (aj0 (aqi (aj0 (ajs (getL 4) (ret (MV.int 32)) aXn) (ret []))) (ret [])) avV) (ajs (bnd (ret []) ajJ) (ajs (getL 11) (ret (MV.int 20)) aXn) ajG)))) akc) 9)
theorem bx0 {n:Nat} (h:n < 32):avV [.list [.int (n:Int)]] st Q E=Q (.bytes [n.toUInt8]) st:=by
 rw [bkv]
 have e:avW [.int (n:Int)]=some [(n:Int)]:=rfl
 simp only [e,Option.some.injEq,exists_eq_left',List.mem_singleton,forall_eq,List.length_singleton,List.map_cons,List.map_nil,Int.toNat_natCast]
 exact propext ⟨fun z=>z.2.2,fun z=>⟨⟨by walk_at "O",by walk_at "O"⟩,by decide,z⟩⟩
theorem bJl {n:Nat} (h:n < 32):okS [n.toUInt8]:=fun c hc=>by
 rw [List.mem_singleton] at hc
 subst hc
 have:∀ m:Nat,m < 256→32≤m→n.toUInt8≠m.toUInt8:=fun m h1 h2 e=>by
  have:=congrArg UInt8.toNat e
  simp [Nat.toUInt8] at this
  walk_at "O"
 exact ⟨this 104 (by decide) (by decide),this 116 (by decide) (by decide),this 114 (by decide) (by decide)⟩
theorem bk8 {rest:Int}{part:Nat}{x:Bs} (hp:part < 48) (hx:x.length≤200) (h:∀ p,okS p→p.length≤5→K .next ⟨[x0,x1,x2,x3,.int rest,x5,x6,x7,x8,.bytes (x++p),x10,.int part,x12,x13,x14,x15,x16,x17,x18,x19,x20,x21,x22,x23],o⟩):bxs ⟨[x0,x1,x2,x3,.int rest,x5,x6,x7,x8,.bytes x,x10,.int part,x12,x13,x14,x15,x16,x17,x18,x19,x20,x21,x22,x23],o⟩ K E:=by
 have put:∀ p,okS p→p.length≤5→x.length + p.length≤16777216∧K .next ⟨[x0,x1,x2,x3,.int rest,x5,x6,x7,x8,.bytes (x++p),x10,.int part,x12,x13,x14,x15,x16,x17,x18,x19,x20,x21,x22,x23],o⟩:=fun p h1 h2=>⟨by walk_at "O",h p h1 h2⟩
 by_cases h20:part < 20
 ·have hd:decide ((part:Int) < 20)=true:=decide_eq_true (by walk_at "O")
  have hi:part < azQ.length:=by show _ < 29;walk_at "O"
  wide_open with [hd,aZi]
  refine ⟨_,akp (L:=azQ) hi,by decide,?_⟩
  wide_open with []
  obtain ⟨h1,h2⟩:=aZf (azM hi)
  exact put _ h1 h2
 ·have hd:decide ((part:Int) < 20)=false:=decide_eq_false (by walk_at "O")
  by_cases h23:part < 23
  ·have hd2:decide ((part:Int) < 23)=true:=decide_eq_true (by walk_at "O")
   refine ajl (axc (n:=rest) (m:=9) (by decide)) fun r hr he=>?_
   have he':rest.fmod 9=(r:Int):=he
   have e:(20:Int) + (r:Int)=((20 + r:Nat):Int):=by walk_at "O"
   have hi:20 + r < azQ.length:=by show _ < 29;walk_at "O"
   wide_open with [hd,hd2,aZi,he',e,Int.reduceEq]
   refine ⟨_,akp (L:=azQ) hi,by decide,?_⟩
   wide_open with []
   obtain ⟨h1,h2⟩:=aZf (azM hi)
   exact put _ h1 h2
  ·have hd2:decide ((part:Int) < 23)=false:=decide_eq_false (by walk_at "O")
   by_cases h26:part < 26
   ·have hd3:decide ((part:Int) < 26)=true:=decide_eq_true (by walk_at "O")
    refine ajl (axc (n:=rest) (m:=32) (by decide)) fun r hr he=>?_
    have he':rest.fmod 32=(r:Int):=he
    wide_open with [hd,hd2,hd3,he',Int.reduceEq,bx0 hr,List.length_cons,List.length_nil,MV.cls]
    exact ⟨by walk_at "O",(put _ (bJl hr) (by simp)).2⟩
   ·have hd3:decide ((part:Int) < 26)=false:=decide_eq_false (by walk_at "O")
    refine ajl (axc (n:=(part:Int)) (m:=20) (by decide)) fun r hr he=>?_
    have he':(part:Int).fmod 20=(r:Int):=he
    have hi:r < azQ.length:=by show _ < 29;walk_at "O"
    wide_open with [hd,hd2,hd3,aZi,he',Int.reduceEq]
    refine ⟨_,akp (L:=azQ) hi,by decide,?_⟩
    wide_open with []
    obtain ⟨h1,h2⟩:=aZf (azM hi)
    exact put _ h1 h2
end
end Mine
namespace Mine
open PySem PySem.W
section
variable {l:List MV}{o:List MO}{d:D}{st:MSt}{Q:MV→MSt→Prop}{E:Value→MSt→Prop}{K:MF→MSt→Prop}{x0 x1 x2 x3 x4 x5 x6 x7 x8 x9 x10 x11 x12 x13 x14 x15 x16 x17 x18 x19 x20 x21 x22 x23:MV}
noncomputable abbrev bJY:M MF:=(ifM (ifM (ajh (getL 6) (ret (MV.int 9)) mLt aj3) (ret true) (ifM (ajh (getL 4) (ret (MV.int 0)) mEq aj3) (ret true) (ifM (ajh (getL 4) (bnd (ret (MV.int 1)) aJd) mEq aj3) (ret true) (ret false)))) (ret MF.brk) (ret MF.next))
noncomputable abbrev bv3:M MF:=(ajc bJY (ajc (bzI 48 11 4) bxs))
theorem bvb {pick:Nat}{rest:Int} (k1:K .brk ⟨[x0,x1,x2,x3,.int rest,x5,.int pick,x7,x8,x9,x10,x11,x12,x13,x14,x15,x16,x17,x18,x19,x20,x21,x22,x23],o⟩) (k2:9≤pick→K .next ⟨[x0,x1,x2,x3,.int rest,x5,.int pick,x7,x8,x9,x10,x11,x12,x13,x14,x15,x16,x17,x18,x19,x20,x21,x22,x23],o⟩):bJY ⟨[x0,x1,x2,x3,.int rest,x5,.int pick,x7,x8,x9,x10,x11,x12,x13,x14,x15,x16,x17,x18,x19,x20,x21,x22,x23],o⟩ K E:=by
 by_cases h9:pick < 9
 ·have hd:decide ((pick:Int) < 9)=true:=decide_eq_true (by walk_at "O")
  wide_open with [hd]
  exact k1
 ·have hd:decide ((pick:Int) < 9)=false:=decide_eq_false (by walk_at "O")
  have k2':=k2 (by walk_at "O")
  by_cases h0:rest=0
  ·wide_open with [hd,decide_eq_true h0]
   exact k1
  ·by_cases h1:rest = -1
   ·wide_open with [hd,decide_eq_false h0,decide_eq_true h1]
    exact k1
   ·wide_open with [hd,decide_eq_false h0,decide_eq_false h1]
    exact k2'
theorem bvs {a b:Bs} (h1:okS a) (h2:okS b):okS (a++b):=fun c hc=>by
 rcases List.mem_append.mp hc with h | h
 ·exact h1 c h
 ·exact h2 c h
theorem aKn {pick:Nat}{QF:MF→MSt→Prop}:∀ (xs:List MV) (rest:Int) (x:Bs) (x10 x11:MV),(∀ y∈xs,y≠.unb)→mkN pick x→x.length + 5 * xs.length≤200→
  (∀ rest' x' x10' x11',mkN pick x'→x'.length≤200→QF .next ⟨[x0,x1,x2,x3,.int rest',x5,.int pick,x7,x8,.bytes x',x10',x11',x12,x13,x14,x15,x16,x17,x18,x19,x20,x21,x22,x23],o⟩)→
  aqu xs (ajD 10) bv3 ⟨[x0,x1,x2,x3,.int rest,x5,.int pick,x7,x8,.bytes x,x10,x11,x12,x13,x14,x15,x16,x17,x18,x19,x20,x21,x22,x23],o⟩ QF E
 | [],rest,x,x10,x11,hu,hm,hl,hq=>by rw [aVo];exact hq rest x x10 x11 hm (by simpa using hl)
 | y::xs,rest,x,x10,x11,hu,hm,hl,hq=>by
  rw [List.length_cons] at hl
  refine aJg fun K k1 k2 k3 k4=>?_
  refine bX8 (hu y (.head _)) ?_
  show bv3 ⟨[x0,x1,x2,x3,.int rest,x5,.int pick,x7,x8,.bytes x,y,x11,x12,x13,x14,x15,x16,x17,x18,x19,x20,x21,x22,x23],o⟩ K E
  refine aji fun K' kn kr kb kc=>?_
  refine bvb (kb _ (k3 _ (hq _ _ _ _ hm (by walk_at "O")))) fun h9=>kn _ ?_
  refine aji fun K'' kn kr kb kc=>?_
  refine bQh fun q r hr=>kn _ ?_
  refine bk8 hr (by walk_at "O") fun p hp hpl=>k1 _ ?_
  refine aKn xs q (x++p) y (.int r) (fun z hz=>hu z (.tail _ hz)) ?_ (by rw [List.length_append];walk_at "O") hq
  unfold mkN at hm;unfold mkN
  rw [if_neg (by walk_at "O")] at hm ⊢
  revert hm;refine bQ6 fun f hf s e6_ hs=>?_;subst e6_
  exact ⟨f,hf,s++p,by rw [List.append_assoc],bvs hs hp⟩
noncomputable abbrev bxf:M MF:=(bnd (bnd (aj0 (ret (MV.int 4)) (ret [])) axB) fun xs=>aqu xs (ajD 10) bv3)
theorem bzM {pick:Nat}{rest:Int}{x:Bs} (hm:mkN pick x) (hl:x.length≤20) (h:∀ rest' x' x10' x11',bkm x'→K .next ⟨[x0,x1,x2,x3,.int rest',x5,.int pick,x7,x8,.bytes x',x10',x11',x12,x13,x14,x15,x16,x17,x18,x19,x20,x21,x22,x23],o⟩):bxf ⟨[x0,x1,x2,x3,.int rest,x5,.int pick,x7,x8,.bytes x,x10,x11,x12,x13,x14,x15,x16,x17,x18,x19,x20,x21,x22,x23],o⟩ K E:=by
 have hr4:∀ (QL:List MV→MSt→Prop) (E:Value→MSt→Prop) st,QL [.int 0,.int 1,.int 2,.int 3] st→axB [.int 4] st QL E:=fun QL E st q=>⟨by decide,by decide,q⟩
 simp only [aQl,aK4]
 refine hr4 _ _ _ ?_
 refine aKn _ rest x x10 x11 (by simp) hm (by show _ + 5 * 4≤200;walk_at "O") fun rest' x' x10' x11' h1 h2=>h _ _ _ _ ⟨h2,?_⟩
 unfold mkN at h1
 split at h1
 ·exact .inl h1
 ·exact .inr h1
noncomputable abbrev bzc:M MF:=(avQ (ajh (aje (getL 9) (bnd (ret (MV.int 1)) aJd) (ret MV.none)) (ret (MV.bytes [47])) mEq aj3) (aqc (aje (getL 9) (ret MV.none) (bnd (ret (MV.int 1)) aJd)) 9))
theorem bzb {x:Bs} (hx:x.length≤1000) (h:K .next ⟨[x0,x1,x2,x3,x4,x5,x6,x7,x8,.bytes (rsP aQQ x),x10,x11,x12,x13,x14,x15,x16,x17,x18,x19,x20,x21,x22,x23],o⟩):bzc ⟨[x0,x1,x2,x3,x4,x5,x6,x7,x8,.bytes x,x10,x11,x12,x13,x14,x15,x16,x17,x18,x19,x20,x21,x22,x23],o⟩ K E:=by
 have:=avr (p:=aQQ) (S:=fun x=>⟨[x0,x1,x2,x3,x4,x5,x6,x7,x8,.bytes x,x10,x11,x12,x13,x14,x15,x16,x17,x18,x19,x20,x21,x22,x23],o⟩) (Q:=K) (E:=E) (c:=(ajh (aje (getL 9) (bnd (ret (MV.int 1)) aJd) (ret MV.none)) (ret (MV.bytes [47])) mEq aj3)) (b:=(aqc (aje (getL 9) (ret MV.none) (bnd (ret (MV.int 1)) aJd)) 9)) (fun QB q=>?_) (fun y a hl QB q=>?_) (fun y a hl QF q=>?_) x.reverse (by rw [List.length_reverse];exact hx) h
 ·rwa [List.reverse_reverse] at this
 ·wide_open with [avZ,List.length_nil]
  exact q
 ·have e:decide (([a]:Bs)=[47])=aQQ a:=by by_cases z:a=47<;>simp [z]
  wide_open with [aJ0,show (y++[a]).length≤16777216 by walk_at "O",e]
  exact q
 ·wide_open with [aJ1,show (y++[a]).length≤16777216 by walk_at "O"]
  exact q
noncomputable abbrev aVs:M MF:=(avQ (ajh (aje (getL 9) (ret MV.none) (ret (MV.int 1))) (ret (MV.bytes [47])) mEq aj3) (aqc (aje (getL 9) (ret (MV.int 1)) (ret MV.none)) 9))
theorem bKB {b:Bs}:axx b (some 1) none=b.drop 1:=akt b 1
theorem bza {b:Bs}:axx b none (some 1)=b.take 1:=aks b 1
theorem bj6 {x:Bs} (hx:x.length≤1000) (h:K .next ⟨[x0,x1,x2,x3,x4,x5,x6,x7,x8,.bytes (x.dropWhile aQQ),x10,x11,x12,x13,x14,x15,x16,x17,x18,x19,x20,x21,x22,x23],o⟩):aVs ⟨[x0,x1,x2,x3,x4,x5,x6,x7,x8,.bytes x,x10,x11,x12,x13,x14,x15,x16,x17,x18,x19,x20,x21,x22,x23],o⟩ K E:=by
 refine aQs (p:=aQQ) (S:=fun x=>⟨[x0,x1,x2,x3,x4,x5,x6,x7,x8,.bytes x,x10,x11,x12,x13,x14,x15,x16,x17,x18,x19,x20,x21,x22,x23],o⟩) (Q:=K) (E:=E) (fun QB q=>?_) (fun y a hl QB q=>?_) (fun y a hl QF q=>?_) x hx h
 ·wide_open with [bza,List.length_nil,List.take_nil]
  exact q
 ·have e:decide (([a]:Bs)=[47])=aQQ a:=by by_cases z:a=47<;>simp [z]
  wide_open with [bza,show (a::y).length≤16777216 by walk_at "O",List.take_succ_cons,List.take_zero,e]
  exact q
 ·wide_open with [bKB,show (a::y).length≤16777216 by walk_at "O",List.drop_succ_cons,List.drop_zero]
  exact q
end
end Mine
namespace Mine
open PySem PySem.W
noncomputable abbrev bqF:UInt8→Bool:=fun c=>[13,10].contains c
theorem bvi {b:Bs} (h:b.take 5=akb):(rsP bqF b).drop 5=ajy false true [13,10] (b.drop 5):=by
 have hb:b=akb++b.drop 5:=by
  conv=>lhs;rw [← List.take_append_drop 5 b,h]
 show _=((b.drop 5).reverse.dropWhile bqF).reverse
 generalize b.drop 5=y at hb
 subst hb
 unfold rsP
 rw [List.reverse_append,List.dropWhile_append]
 split
 ·rename_i hz
  have:y.reverse.dropWhile bqF=[]:=by simpa using hz
  rw [this]
  rfl
 ·rw [List.reverse_append,List.reverse_reverse]
  rfl
section
variable {l:List MV}{o:List MO}{d:D}{st:MSt}{Q:MV→MSt→Prop}{E:Value→MSt→Prop}{K:MF→MSt→Prop}{x0 x1 x2 x3 x4 x5 x6 x7 x8 x9 x10 x11 x12 x13 x14 x15 x16 x17 x18 x19 x20 x21 x22 x23:MV}
theorem bZZ:mNe .none .none st Q E=Q (.bool false) st:=rfl
noncomputable abbrev bxr:M MF:=(avQ (ifM (ajh (aje (getL 14) (bnd (ret (MV.int 1)) aJd) (ret MV.none)) (ret (MV.bytes [10])) mEq aj3) (ret true) (ifM (ajh (aje (getL 14) (bnd (ret (MV.int 1)) aJd) (ret MV.none)) (ret (MV.bytes [13])) mEq aj3) (ret true) (ret false))) (aqc (aje (getL 14) (ret MV.none) (bnd (ret (MV.int 1)) aJd)) 14))
theorem bk7 {x:Bs} (hx:x.length≤1000) (h:K .next ⟨[x0,x1,x2,x3,x4,x5,x6,x7,x8,x9,x10,x11,x12,x13,.bytes (rsP bqF x),x15,x16,x17,x18,x19,x20,x21,x22,x23],o⟩):bxr ⟨[x0,x1,x2,x3,x4,x5,x6,x7,x8,x9,x10,x11,x12,x13,.bytes x,x15,x16,x17,x18,x19,x20,x21,x22,x23],o⟩ K E:=by
 have:=avr (p:=bqF) (S:=fun x=>⟨[x0,x1,x2,x3,x4,x5,x6,x7,x8,x9,x10,x11,x12,x13,.bytes x,x15,x16,x17,x18,x19,x20,x21,x22,x23],o⟩) (Q:=K) (E:=E) (c:=(ifM (ajh (aje (getL 14) (bnd (ret (MV.int 1)) aJd) (ret MV.none)) (ret (MV.bytes [10])) mEq aj3) (ret true) (ifM (ajh (aje (getL 14) (bnd (ret (MV.int 1)) aJd) (ret MV.none)) (ret (MV.bytes [13])) mEq aj3) (ret true) (ret false)))) (b:=(aqc (aje (getL 14) (ret MV.none) (bnd (ret (MV.int 1)) aJd)) 14)) (fun QB q=>?_) (fun y a hl QB q=>?_) (fun y a hl QF q=>?_) x.reverse (by rw [List.length_reverse];exact hx) h
 ·rwa [List.reverse_reverse] at this
 ·wide_open with [avZ,List.length_nil]
  exact q
 ·wide_open with [aJ0,show (y++[a]).length≤16777216 by walk_at "O"]
  by_cases h1:a=10
  ·subst h1
   exact q
  ·have e1:decide (([a]:Bs)=[10])=false:=by simp [h1]
   rw [e1]
   wide_open with []
   by_cases h2:a=13
   ·subst h2
    exact q
   ·have e2:decide (([a]:Bs)=[13])=false:=by simp [h2]
    rw [e2]
    have e3:bqF a=false:=by simp [bqF,h1,h2]
    rw [e3] at q
    exact q
 ·wide_open with [aJ1,show (y++[a]).length≤16777216 by walk_at "O"]
  exact q
noncomputable abbrev bZN:M MF:=(aVE (aqc (bnd (aj0 (getL 13) (ret [])) ajm) 15) (aq0 [(aKZ,(bnd (ajD 15 MV.none) fun _=>ret MF.next))]) (ret MF.next))
noncomputable abbrev bZM:M MF:=(ifM (ajh (getL 15) (ifM (ajh (aje (getL 13) (ret MV.none) (ret (MV.int 5))) (ret (MV.bytes [114,101,102,58,32])) mEq aj3) (aje (getL 14) (ret (MV.int 5)) (ret MV.none)) (ret MV.none)) mNe aj3) (aju (ret (MV.bool false))) (ret MF.next))
noncomputable abbrev bju:M MF:=(ajc (aqc (getL 13) 14) (ajc bxr (ajc bZN bZM)))
theorem bz3 {b:Bs}:mEq (.bytes b) (.bytes [114,101,102,58,32]) st Q E=Q (.bool (decide (b=akb))) st:=bQR
theorem bv4 {b:Bs} (hb:b.length≤1000) (h:∀ x14 x15,K .next ⟨[x0,x1,x2,x3,x4,x5,x6,x7,x8,x9,x10,x11,x12,.bytes b,x14,x15,x16,x17,x18,x19,x20,x21,x22,x23],o⟩):bju ⟨[x0,x1,x2,x3,x4,x5,x6,x7,x8,x9,x10,x11,x12,.bytes b,x14,x15,x16,x17,x18,x19,x20,x21,x22,x23],o⟩ K E:=by
 refine aji fun K' kn kr kb kc=>?_
 wide_open with []
 refine kn _ ?_
 refine aji fun K' kn kr kb kc=>?_
 refine bk7 hb (kn _ ?_)
 have hr:(rsP bqF b).length≤1000:=Nat.le_trans (ak0 bqF b).length_le hb
 refine aji fun K' kn kr kb kc=>?_
 by_cases ht:b.take 5=akb
 ·wide_open with [aQt,aXa hb]
  rw [if_pos ht]
  refine kn _ ?_
  wide_open with [aKE,avI,show b.length≤16777216 by walk_at "O",show (rsP bqF b).length≤16777216 by walk_at "O",bz3,decide_eq_true ht,bvi ht]
  exact h _ _
 ·wide_open with [aQt,aXa hb]
  rw [if_neg ht]
  refine ⟨true,bZl,?_⟩
  rw [if_pos rfl]
  wide_open with []
  refine kn _ ?_
  wide_open with [aKE,avI,show b.length≤16777216 by walk_at "O",show (rsP bqF b).length≤16777216 by walk_at "O",bz3,decide_eq_false ht,bZZ]
  exact h _ _
noncomputable abbrev bxg:M MF:=(bnd (bnd (aqi (aj0 (ajs (ajs (ret (MV.bytes [114,101,102,58,32])) (getL 9) akc) (ajs (aqi (ret (List.map MV.bytes [[],[10],[13,10],[10,13,10]]))) (ajs (getL 7) (ret (MV.int 4)) aXn) ajG) akc) (aj0 (ajs (ret (MV.bytes [114,101,102,58])) (getL 9) akc) (aj0 (getL 9) (ret []))))) aq7) fun xs=>aqu xs (ajD 13) bju)
theorem aKo {QF:MF→MSt→Prop}:∀ (bs:List Bs) (x13 x14 x15:MV),(∀ b∈bs,b.length≤1000)→(∀ x13 x14 x15,QF .next ⟨[x0,x1,x2,x3,x4,x5,x6,x7,x8,x9,x10,x11,x12,x13,x14,x15,x16,x17,x18,x19,x20,x21,x22,x23],o⟩)→aqu (bs.map MV.bytes) (ajD 13) bju ⟨[x0,x1,x2,x3,x4,x5,x6,x7,x8,x9,x10,x11,x12,x13,x14,x15,x16,x17,x18,x19,x20,x21,x22,x23],o⟩ QF E
 | [],_,_,_,_,h=>h _ _ _
 | b::bs,x13,x14,x15,hb,h=>by
  show aqu (.bytes b::bs.map MV.bytes) (ajD 13) bju _ QF E
  refine aJg fun K k1 k2 k3 k4=>?_
  show bju ⟨[x0,x1,x2,x3,x4,x5,x6,x7,x8,x9,x10,x11,x12,.bytes b,x14,x15,x16,x17,x18,x19,x20,x21,x22,x23],o⟩ K E
  exact bv4 (hb b (.head _)) fun y14 y15=>k1 _ (aKo bs _ _ _ (fun c hc=>hb c (.tail _ hc)) h)
theorem bzN {x:Bs}{what:Nat} (hx:x.length≤200) (h:∀ x13 x14 x15,K .next ⟨[x0,x1,x2,x3,x4,x5,x6,.int what,x8,.bytes x,x10,x11,x12,x13,x14,x15,x16,x17,x18,x19,x20,x21,x22,x23],o⟩):bxg ⟨[x0,x1,x2,x3,x4,x5,x6,.int what,x8,.bytes x,x10,x11,x12,x13,x14,x15,x16,x17,x18,x19,x20,x21,x22,x23],o⟩ K E:=by
 refine ajl (axc (n:=(what:Int)) (m:=4) (by decide)) fun r hr he=>?_
 have he':(what:Int).fmod 4=(r:Int):=he
 have hs:([[],[10],[13,10],[10,13,10]]:List Bs).getD r []∈([[],[10],[13,10],[10,13,10]]:List Bs):=azM hr
 have hsl:(([[],[10],[13,10],[10,13,10]]:List Bs).getD r []).length≤3:=by
  have:∀ s∈([[],[10],[13,10],[10,13,10]]:List Bs),s.length≤3:=by decide
  exact this _ hs
 have hl1:([114,101,102,58,32]:Bs).length + x.length≤16777216:=by show 5 + _≤_;walk_at "O"
 have hl2:([114,101,102,58]:Bs).length + x.length≤16777216:=by show 4 + _≤_;walk_at "O"
 have hl3:(([114,101,102,58,32]:Bs)++x).length=5 + x.length:=by rw [List.length_append];rfl
 have hl4:(([114,101,102,58]:Bs)++x).length=4 + x.length:=by rw [List.length_append];rfl
 wide_open with [hl1,hl2,List.map_cons,List.map_nil,List.length_cons,List.length_nil,MV.cls,he',Int.reduceEq]
 refine ⟨by walk_at "O",_,akp (L:=[[],[10],[13,10],[10,13,10]]) hr,?_⟩
 wide_open with []
 refine ⟨by rw [hl3];walk_at "O",?_⟩
 refine ⟨hl2,?_⟩
 refine aKo [[114,101,102,58,32]++x++([[],[10],[13,10],[10,13,10]]:List Bs).getD r [],[114,101,102,58]++x,x] _ _ _ (fun b hb=>?_) h
 simp only [List.mem_cons,List.not_mem_nil,or_false] at hb
 rcases hb with rfl | rfl | rfl
 ·rw [List.length_append,hl3];walk_at "O"
 ·rw [hl4];walk_at "O"
 ·walk_at "O"
end
end Mine
namespace Mine
open PySem PySem.W
structure Inv (o:List MO) (d R:D) (n:Nat):Prop where
 tab:o[0]? = some .tab
 ref:o[1]? = some (.dict (emb R))
 nd:(aj7 d).Nodup
 nR:(aj7 R).Nodup
 same:∀ k,ajp R k=ajp d k
 len:d.length≤n
 lenR:R.length≤n
 keys:∀ k∈aj7 d,bx9 k
 vals:∀ e∈d,e.2≠[]∧e.2.length≤900∧(e.2.take 5=akb→ajy false true [13,10] (e.2.drop 5)=e.2.drop 5)
theorem bqH {o:List MO}{d R:D}{n:Nat} (I:Inv o d R n) {e:Bs×Bs} (h:e∈R):e∈d:=by
 have:=aJU I.nR (show (e.1,e.2)∈R from h)
 rw [I.same] at this
 exact aJs this
theorem az5 {o:List MO}{d R:D}{n:Nat} (I:Inv o d R n) {k:Bs}:k∈aj7 R↔k∈aj7 d:=decide_eq_decide.mp (aZr I.same k)
theorem avF {o:List MO}{d R:D}{n:Nat} (I:Inv o d R n):okV d:=fun e he=>⟨(I.vals e he).1,by have:=(I.vals e he).2.1;walk_at "O"⟩
theorem aZF {o:List MO}{d R:D}{n:Nat} (I:Inv o d R n):okV R:=fun e he=>avF I e (bqH I he)
noncomputable def bx8 (v:Bs):Prop:=v≠[]∧v.length≤900∧(v.take 5=akb→ajy false true [13,10] (v.drop 5)=v.drop 5)
theorem bkK {v:Bs} (h:v∈ajM) (h1:vin v=true):bx8 v:=by
 have:∀ v∈ajM,vin v=true→v≠[]∧v.length≤900∧(v.take 5=akb→ajy false true [13,10] (v.drop 5)=v.drop 5):=by decide +kernel
 exact this v h h1
theorem bkL {n:Bs} (h:n∈azp):bx8 (akb++n):=by
 have:∀ n∈azp,akb++n≠[]∧(akb++n).length≤900∧((akb++n).take 5=akb→ajy false true [13,10] ((akb++n).drop 5)=(akb++n).drop 5):=by decide +kernel
 exact this n h
theorem bJK {v:Bs} (h:v∈ajM):akX v=vin v:=by
 have:∀ v∈ajM,akX v=vin v:=by decide +kernel
 exact this v h
theorem bv1 {v:Bs} (h:v∈ajM):v.length≤100:=by
 have:∀ v∈ajM,v.length≤100:=by decide +kernel
 exact this v h
theorem bz7 {d:D}{kind:Nat}{name value oth:Bs}{old:Option Bs} (hk:kind≤8) (h45:kind=4∨kind=5→ajN name=true) :
  (axd d kind name value old oth).2=d∨(∃ v,(axd d kind name value old oth).2=ak5 d name v∧(v=none∨(ajN name=true∧((vin value=true∧v=some value)∨v=some (akb++oth))))):=by
 rcases bvO hk with rfl | rfl | rfl | h | rfl | h
 ·cases hc:ajq d 5 name with
  | none=>exact .inl (by rw [bJ8 hc])
  | some r=>obtain ⟨ns,e⟩:=r;exact .inl (by rw [bKz hc])
 ·cases hc:ajq d 5 name with
  | none=>exact .inl (by rw [bJ7 hc])
  | some r=>
   obtain ⟨ns,e⟩:=r
   cases e with
   | none=>exact .inl (by rw [bJ6 hc])
   | some v=>exact .inl (by rw [bJ5 hc])
 ·exact .inl rfl
 ·exact .inr ⟨_,by rw [bJ9 h],.inr ⟨h45 h,.inr rfl⟩⟩
 ·cases ho:other d name old with
  | false=>exact .inr ⟨none,by rw [bZu ho],.inl rfl⟩
  | true=>exact .inl (by rw [bJa ho])
 ·rw [bz8 h]
  unfold bZt
  cases hv:vin value with
  | false=>exact .inl rfl
  | true=>
   rw [if_neg (by decide)]
   by_cases z1:kind=1∧other d name old=true
   ·rw [if_pos z1];exact .inl rfl
   ·rw [if_neg z1]
    by_cases z2:kind=2∧name∈aj7 d
    ·rw [if_pos z2];exact .inl rfl
    ·rw [if_neg z2]
     cases hr:ajN name with
     | false=>exact .inl rfl
     | true=>exact .inr ⟨some value,rfl,.inr ⟨rfl,.inl ⟨rfl,rfl⟩⟩⟩
theorem bvT {o o':List MO}{d R R':D}{n kind:Nat}{x value oth:Bs}{old:Option Bs} (I:Inv o d R n) (hm:bkm x) (hk:kind≤8) (h45:kind=4∨kind=5→ajN (nm x)=true) (hv:value∈ajM) (ho:oth∈azp)
  (hu:Upd o o' R') (hn:(aj7 R').Nodup) (hl:R'.length≤R.length + 1) (hs:∀ k,ajp R' k=ajp (axd d kind (nm x) value old oth).2 k):Inv o' (axd d kind (nm x) value old oth).2 R' (n + 1):=by
 have hlen:=I.len
 have hlenR:=I.lenR
 have h0:o'[0]? = some .tab:=by rw [hu.2.2 0 (by decide)];exact I.tab
 rcases bz7 (d:=d) (value:=value) (oth:=oth) (old:=old) hk h45 with h | ⟨v,h,hv2⟩
 ·rw [h] at hs ⊢
  exact ⟨h0,hu.2.1,I.nd,hn,hs,by walk_at "O",by walk_at "O",I.keys,I.vals⟩
 ·rw [h] at hs ⊢
  have hgood:∀ y,v=some y→bx9 (nm x)∧bx8 y:=fun y hy=>by
   rcases hv2 with rfl | ⟨hr,⟨h1,h2⟩ | h2⟩
   ·cases hy
   ·rw [h2] at hy;cases hy
    exact ⟨aKw hm hr,bkK hv h1⟩
   ·rw [h2] at hy;cases hy
    exact ⟨aKw hm hr,bkL ho⟩
  have hmem:∀ e∈ak5 d (nm x) v,bx9 e.1∧bx8 e.2:=fun e he=>by
   rcases bqo he with ⟨h1,h2⟩ | he
   ·rw [h1];exact hgood _ h2
   ·exact ⟨I.keys _ (List.mem_map.mpr ⟨e,he,rfl⟩),I.vals e he⟩
  refine ⟨h0,hu.2.1,aXh I.nd _ _,hn,hs,?_,by walk_at "O",fun k hk=>?_,fun e he=>(hmem e he).2⟩
  ·have:=bqz d (nm x) v
   walk_at "O"
  ·refine ajl (List.mem_map.mp hk) fun e he e0_=>?_;subst e0_
   exact (hmem e he).1
inductive bJH:MV→Prop
 | none:bJH .none
 | bool (b):bJH (.bool b)
 | str (s):bJH (.str s)
 | bytes (b):bJH (.bytes b)
 | tup (ns:List Bs) (e:Option Bs):bJH (.tup [.list (ns.map MV.bytes),aqO e])
theorem bq8 {d:D}{kind:Nat}{name value oth:Bs}{old:Option Bs}:bJH (axd d kind name value old oth).1:=by
 unfold axd bZt
 repeat' split
 all_goals constructor
theorem bkj {d:D}{kind:Nat}{name value oth:Bs}{old:Option Bs}:aVb (axd d kind name value old oth).1 (axd d kind name value old oth).1=some true∧mvD (axd d kind name value old oth).1≤8:=by
 have h:=bq8 (d:=d) (kind:=kind) (name:=name) (value:=value) (oth:=oth) (old:=old)
 generalize (axd d kind name value old oth).1=r at h ⊢
 have hY:∀ b:Bs,aVb (.bytes b) (.bytes b)=some true:=fun b=>congrArg some (decide_eq_true rfl)
 cases h with
 | none=>exact ⟨rfl,Nat.zero_le _⟩
 | bool b=>exact ⟨congrArg some (beq_self_eq_true b),Nat.zero_le _⟩
 | str b=>exact ⟨congrArg some (beq_self_eq_true b),Nat.zero_le _⟩
 | bytes b=>exact ⟨hY b,Nat.zero_le _⟩
 | tup ns e=>
  have he:aVb (aqO e) (aqO e)=some true∧mvD (aqO e)=0:=by
   cases e with
   | none=>exact ⟨rfl,rfl⟩
   | some y=>exact ⟨hY y,rfl⟩
  have hl2:mvD (.list (ns.map MV.bytes))=1:=congrArg (· + 1) (avz ns)
  constructor
  ·show bJG (aJc (ns.map MV.bytes) (ns.map MV.bytes)) (bJG (aVb (aqO e) (aqO e)) (some true))=_
   rw [axH,he.1]
   rfl
  ·show max (mvD (.list (ns.map MV.bytes))) (max (mvD (aqO e)) 0) + 1≤8
   rw [hl2,he.2]
   decide
end Mine
namespace Mine
open PySem PySem.W
section
variable {l:List MV}{o:List MO}{d:D}{st:MSt}{Q:MV→MSt→Prop}{E:Value→MSt→Prop}{K:MF→MSt→Prop}{x0 x1 x2 x3 x4 x5 x6 x7 x8 x9 x10 x11 x12 x13 x14 x15 x16 x17 x18 x19 x20 x21 x22 x23:MV}
noncomputable abbrev bX5:M MF:=aqc (bnd (aj0 (getL 9) (ret [])) ajo) 12
noncomputable abbrev bX4:M MF:=(ifM (ifM (ajh (getL 12) (bnd (aj0 (getL 9) (aj0 (ret (MV.bool false)) (ret []))) aqx) mNe aj3) (ret true) (ifM (aKU (bnd (bnd (aj0 (getL 12) (aj0 (ret (MV.typ "bool")) (ret []))) azU) aj3)) (ret true) (ret false))) (aju (ret (MV.bool false))) (ret MF.next))
theorem bkF {b:Bool}:azU [.bool b,.typ "bool"] st Q E=Q (.bool true) st:=rfl
theorem bZ3 {x:Bs} (hx:x.length≤200) (h:K .next ⟨[x0,x1,x2,x3,x4,x5,x6,x7,x8,.bytes x,x10,x11,.bool (bj7 x),x13,x14,x15,x16,x17,x18,x19,x20,x21,x22,x23],o⟩):bX5 ⟨[x0,x1,x2,x3,x4,x5,x6,x7,x8,.bytes x,x10,x11,x12,x13,x14,x15,x16,x17,x18,x19,x20,x21,x22,x23],o⟩ K E:=by
 wide_open with [bvq (show x.length≤1000 by walk_at "O")]
 exact h
theorem bZ2 {x:Bs} (hx:x.length≤200) (h:K .next ⟨[x0,x1,x2,x3,x4,x5,x6,x7,x8,.bytes x,x10,x11,.bool (bj7 x),x13,x14,x15,x16,x17,x18,x19,x20,x21,x22,x23],o⟩):bX4 ⟨[x0,x1,x2,x3,x4,x5,x6,x7,x8,.bytes x,x10,x11,.bool (bj7 x),x13,x14,x15,x16,x17,x18,x19,x20,x21,x22,x23],o⟩ K E:=by
 have e:run false [] 0 false x=bj7 x:=by rw [bki,bzd]
 have ne:∀ {b:Bool}{st:MSt}{Q:MV→MSt→Prop}{E:Value→MSt→Prop},mNe (.bool b) (.bool b) st Q E=Q (.bool false) st:=fun {b st Q E}=>by rw [bvA];simp
 wide_open with [aXb (show x.length≤1000 by walk_at "O"),e,bkF,beq_self_eq_true]
 exact h
theorem bqK {n:Int}{ks:List Int}:mIn (.int n) (.tup (ks.map .int)) st Q E=Q (.bool (ks.any fun a=>a == n)) st:=by
 have h:∀ ks:List Int,axa n (ks.map .int)=some (ks.any fun a=>a == n):=by
  intro ks
  induction ks with
  | nil=>rfl
  | cons a ks ih=>
   rw [List.map_cons]
   show (axa n (ks.map .int)).map (fun z=>(a == n) || z)=_
   rw [ih,List.any_cons]
   rfl
 have h2:inV st (.int n) (.tup (ks.map .int))=some (ks.any fun a=>a == n):=h ks
 exact bqJ h2
noncomputable abbrev bQH:M MF:=(ifM (ifM (ajh (getL 5) (aka (aj0 (ret (MV.int 2)) (aj0 (ret (MV.int 4)) (aj0 (ret (MV.int 5)) (ret []))))) mIn aj3) (ifM (aKU (bnd (bnd (aj0 (getL 9) (ret [])) aq5) aj3)) (ret true) (ret false)) (ret false)) (aqc (ret (MV.int 0)) 5) (ret MF.next))
theorem bvQ {kind:Nat}{x:Bs} (hk:kind≤8) (hx:x.length≤200) (h:∀ kind':Nat,kind'≤8→(kind'=2∨kind'=4∨kind'=5→ajN x=true)→K .next ⟨[x0,x1,x2,x3,x4,.int kind',x6,x7,x8,.bytes x,x10,x11,x12,x13,x14,x15,x16,x17,x18,x19,x20,x21,x22,x23],o⟩):bQH ⟨[x0,x1,x2,x3,x4,.int kind,x6,x7,x8,.bytes x,x10,x11,x12,x13,x14,x15,x16,x17,x18,x19,x20,x21,x22,x23],o⟩ K E:=by
 have i3:∀ {st:MSt}{Q:MV→MSt→Prop}{E:Value→MSt→Prop},mIn (.int (kind:Int)) (.tup [.int 2,.int 4,.int 5]) st Q E=Q (.bool ([2,4,5].any fun a=>a == (kind:Int))) st:=fun {st Q E}=>bqK (ks:=[2,4,5])
 wide_open with [i3,List.length_cons,List.length_nil,bq4 (show x.length≤1000 by walk_at "O")]
 by_cases hm:kind=2∨kind=4∨kind=5
 ·have e:([2,4,5].any fun a=>a == (kind:Int))=true:=by rcases hm with rfl | rfl | rfl<;>rfl
  rw [e]
  wide_open with []
  cases hr:ajN x with
  | true=>
   wide_open with []
   exact h kind hk fun _=>hr
  | false=>
   wide_open with []
   exact h 0 (by walk_at "O") fun z=>by walk_at "O"
 ·have e:([2,4,5].any fun a=>a == (kind:Int))=false:=by
   simp only [List.any_cons,List.any_nil,Bool.or_false,Bool.or_eq_false_iff,beq_eq_false_iff_ne]
   walk_at "O"
  rw [e]
  wide_open with []
  exact h kind hk fun z=>absurd z hm
noncomputable abbrev bQE:M MF:=(ifM (ifM (ajh (getL 5) (aka (aj0 (ret (MV.int 4)) (aj0 (ret (MV.int 5)) (ret [])))) mIn aj3) (ifM (ajh (ajs (bnd (aj0 (getL 2) (aj0 (getL 9) (ret []))) aqt) (ret (MV.int 0)) ajG) (ret MV.none) azu aj3) (ret true) (ret false)) (ret false)) (aqc (ret (MV.int 8)) 5) (ret MF.next))
theorem bvH {kind:Nat}{x:Bs} (hn:(aj7 d).Nodup) (hv:okV d) (hk:kind≤8) (hx:x.length≤200) (h:∀ kind':Nat,kind'≤8→(kind'=kind∨kind'=8)→(kind'=4∨kind'=5→ajq d 5 x≠none)→K .next ⟨[x0,x1,.dict (emb d),x3,x4,.int kind',x6,x7,x8,.bytes x,x10,x11,x12,x13,x14,x15,x16,x17,x18,x19,x20,x21,x22,x23],o⟩):bQE ⟨[x0,x1,.dict (emb d),x3,x4,.int kind,x6,x7,x8,.bytes x,x10,x11,x12,x13,x14,x15,x16,x17,x18,x19,x20,x21,x22,x23],o⟩ K E:=by
 have i2:∀ {st:MSt}{Q:MV→MSt→Prop}{E:Value→MSt→Prop},mIn (.int (kind:Int)) (.tup [.int 4,.int 5]) st Q E=Q (.bool ([4,5].any fun a=>a == (kind:Int))) st:=fun {st Q E}=>bqK (ks:=[4,5])
 wide_open with [i2,List.length_cons,List.length_nil]
 by_cases hm:kind=4∨kind=5
 ·have e:([4,5].any fun a=>a == (kind:Int))=true:=by rcases hm with rfl | rfl<;>rfl
  rw [e]
  wide_open with []
  refine bjZ hn hv (by walk_at "O") (fun ns ev hce=>?_) (fun hce=>?_)
  ·wide_open with [bXc,exists_eq_left',List.length_cons,List.length_nil,aq3,ajE]
   exact h kind hk (.inl rfl) fun _ z=>by rw [hce] at z;cases z
  ·wide_open with [bXc,exists_eq_left',List.length_cons,List.length_nil,aq3,ajE]
   exact h 8 (by walk_at "O") (.inr rfl) fun z=>by walk_at "O"
 ·have e:([4,5].any fun a=>a == (kind:Int))=false:=by
   simp only [List.any_cons,List.any_nil,Bool.or_false,Bool.or_eq_false_iff,beq_eq_false_iff_ne]
   walk_at "O"
  rw [e]
  wide_open with []
  exact h kind hk (.inl rfl) fun z=>absurd z hm
noncomputable abbrev bQc:M MF:=(bnd (aka (aj0 (ajs (bnd (ret []) ajB) (getL 7) ajG) (aj0 (ajs (bnd (ret []) aqw) (getL 8) ajG) (ret [])))) (azm fun xs=>gE xs 2 (bnd ((ajg (ajD 17) (ajg (ajD 16) aqj)) xs.reverse) fun _=>ret MF.next)))
theorem bvl {what spot:Nat} (hw:what < 11) (hs:spot < 9) (h:∀ v n,v∈ajM→n∈azp→K .next ⟨[x0,x1,x2,x3,x4,x5,x6,.int what,.int spot,x9,x10,x11,x12,x13,x14,x15,.bytes v,.bytes n,x18,x19,x20,x21,x22,x23],o⟩):bQc ⟨[x0,x1,x2,x3,x4,x5,x6,.int what,.int spot,x9,x10,x11,x12,x13,x14,x15,x16,x17,x18,x19,x20,x21,x22,x23],o⟩ K E:=by
 wide_open with [aZh,bq5]
 refine ⟨_,akp (L:=ajM) hw,by decide,?_⟩
 refine ⟨_,akp (L:=azp) hs,by decide,?_⟩
 wide_open with [List.length_cons,List.length_nil,List.reverse_cons,List.reverse_nil,List.nil_append,List.cons_append]
 exact h _ _ (azM hw) (azM hs)
noncomputable abbrev bKR:M MF:=(aqc (ajs (aqi (aj0 (ret MV.none) (aj0 (ajk ax9 (getL 2) (aj0 (getL 9) (aj0 (ajs (ret (MV.bytes [48])) (ret (MV.int 40)) aJo) (ret []))) axe) (aj0 (ajs (bnd (ret []) ajB) (ajs (ajs (getL 7) (ret (MV.int 1)) akc) (ret (MV.int 11)) aXn) ajG) (ret []))))) (ajs (getL 8) (ret (MV.int 3)) aXn) ajG) 18)
theorem bQe {what spot:Nat}{x:Bs} (hn:(aj7 d).Nodup) (h:∀ old,K .next ⟨[x0,x1,.dict (emb d),x3,x4,x5,x6,.int what,.int spot,.bytes x,x10,x11,x12,x13,x14,x15,x16,x17,aqO old,x19,x20,x21,x22,x23],o⟩):bKR ⟨[x0,x1,.dict (emb d),x3,x4,x5,x6,.int what,.int spot,.bytes x,x10,x11,x12,x13,x14,x15,x16,x17,x18,x19,x20,x21,x22,x23],o⟩ K E:=by
 refine ajl (axc (n:=(what:Int) + 1) (m:=11) (by decide)) fun r hr he=>?_
 have he':((what:Int) + 1).fmod 11=(r:Int):=he
 refine ajl (axc (n:=(spot:Int)) (m:=3) (by decide)) fun t ht he2=>?_
 have he2':(spot:Int).fmod 3=(t:Int):=he2
 wide_open with [aZh,bK7,dg3 (bzL (d:=d)) hn,isD (bzL (d:=d)) hn,axb,avG,he',he2',Int.reduceEq]
 refine ⟨_,akp (L:=ajM) hr,by decide,?_⟩
 have h3:t=0∨t=1∨t=2:=by walk_at "O"
 rcases h3 with rfl | rfl | rfl
 ·exact ⟨.none,rfl,h none⟩
 ·exact ⟨.bytes ((ajp d x).getD avq),rfl,h (some _)⟩
 ·exact ⟨.bytes (ajM.getD r []),rfl,h (some _)⟩
end
end Mine
namespace Mine
open PySem PySem.W
section
variable {l:List MV}{o:List MO}{d R:D}{st:MSt}{Q:MV→MSt→Prop}{E:Value→MSt→Prop}{K:MF→MSt→Prop}{x0 x1 x2 x3 x4 x5 x6 x7 x8 x9 x10 x11 x12 x13 x14 x15 x16 x17 x18 x19 x20 x21 x22 x23:MV}
theorem bj3 {kind:Nat}{name value oth:Bs}{old:Option Bs}:∃ b,∀ (st:MSt) (Q:MV→MSt→Prop) (E:Value→MSt→Prop),azU [(axd d kind name value old oth).1,.typ "bool"] st Q E=Q (.bool b) st:=by
 have h:=bq8 (d:=d) (kind:=kind) (name:=name) (value:=value) (oth:=oth) (old:=old)
 generalize (axd d kind name value old oth).1=r at h ⊢
 cases h with
 | bool b=>exact ⟨true,fun _ _ _=>rfl⟩
 | none=>exact ⟨false,fun _ _ _=>rfl⟩
 | str b=>exact ⟨false,fun _ _ _=>rfl⟩
 | bytes b=>exact ⟨false,fun _ _ _=>rfl⟩
 | tup ns e=>exact ⟨false,fun _ _ _=>rfl⟩
theorem bvy {v:MV} (h:aVb v v=some true∧mvD v≤8):mNe v v st Q E=Q (.bool false) st:=by
 exact bQj h.1 h.2
noncomputable abbrev bX3:M MF:=(bnd (bnd (aj0 (getL 2) (aj0 (getL 5) (aj0 (getL 9) (aj0 (getL 16) (aj0 (getL 18) (aj0 (getL 17) (ret []))))))) axp) fun a=>bnd (azm (fun xs=>gE xs 2 ((ajg (ajD 19) (ajg (ajD 20) aqj)) xs)) a) fun _=>ret MF.next)
noncomputable abbrev bJV:M MF:=aqc (bnd (aj0 (getL 1) (aj0 (getL 5) (aj0 (getL 9) (aj0 (getL 16) (aj0 (getL 18) (aj0 (getL 17) (ret []))))))) akk) 21
noncomputable abbrev bQx:M MF:=(ifM (ifM (ajh (getL 21) (getL 19) mNe aj3) (ret true) (ifM (ajh (bnd (aj0 (getL 21) (aj0 (ret (MV.typ "bool")) (ret []))) azU) (bnd (aj0 (getL 19) (aj0 (ret (MV.typ "bool")) (ret []))) azU) mNe aj3) (ret true) (ret false))) (aju (ret (MV.bool false))) (ret MF.next))
theorem bQX {kind n:Nat}{x v w:Bs}{old:Option Bs} (I:Inv o d R n) (hnn:n≤800) (hm:bkm x) (hk:kind≤8) (hr:kind=2∨kind=4∨kind=5→ajN (nm x)=true) (hc:kind=4∨kind=5→ajq d 5 (nm x)≠none) (hv:v∈ajM) (hw:w∈azp)
  (h:∀ o' d' R' y5 y9 y16 y17 y18 y19 y20 y21,Inv o' d' R' (n + 1)→o'.length=o.length→K .next ⟨[x0,.refs 1,.dict (emb d'),x3,x4,y5,x6,x7,x8,y9,x10,x11,x12,x13,x14,x15,y16,y17,y18,y19,y20,y21,x22,x23],o'⟩) :
  ajc bX3 (ajc bJV (ajc bQx (aqc (getL 20) 2))) ⟨[x0,.refs 1,.dict (emb d),x3,x4,.int kind,x6,x7,x8,.bytes (nm x),x10,x11,x12,x13,x14,x15,.bytes v,.bytes w,aqO old,x19,x20,x21,x22,x23],o⟩ K E:=by
 have hold:aqO old≠.unb:=by cases old<;>simp [aqO]
 have hnl:(nm x).length≤200:=Nat.le_trans (bqj x) hm.1
 have hvl:=bv1 hv
 have hwl:=aV9 hw
 have hI1:=I.len
 have hI2:=I.lenR
 have hd1:=bkj (d:=d) (kind:=kind) (name:=nm x) (value:=v) (oth:=w) (old:=old)
 have hdu:(axd d kind (nm x) v old w).1≠.unb:=fun z=>by
  have:=hd1.1
  rw [z] at this
  cases this
 obtain ⟨bb,hbb⟩:=bj3 (d:=d) (kind:=kind) (name:=nm x) (value:=v) (oth:=w) (old:=old)
 refine aji fun K' kn kr kb kc=>?_
 wide_open with [hold]
 refine bZP hk I.nd (avF I) (by walk_at "O") (by walk_at "O") (by walk_at "O") ?_
 wide_open with [List.length_cons,List.length_nil,hdu]
 refine kn _ ?_
 refine aji fun K' kn kr kb kc=>?_
 wide_open with [hold]
 refine bQd hk I.tab I.ref I.nR (aZF I) (by walk_at "O") (by walk_at "O") (by walk_at "O") (by walk_at "O") (bqk x) I.same (bJK hv) (fun z=>hr (.inl z)) hc (fun o' R' hu hn' hl' hs'=>?_)
 wide_open with [hdu]
 refine kn _ ?_
 refine aji fun K' kn kr kb kc=>?_
 have ne:∀ {b:Bool}{st:MSt}{Q:MV→MSt→Prop}{E:Value→MSt→Prop},mNe (.bool b) (.bool b) st Q E=Q (.bool false) st:=fun {b st Q E}=>by rw [bvA];simp
 wide_open with [hdu,bvy hd1,hbb,beq_self_eq_true]
 refine kn _ ?_
 wide_open with []
 exact h _ _ _ _ _ _ _ _ _ _ _ (bvT I hm hk (fun z=>hr (.inr z)) hv hw hu hn' hl' hs') hu.1
noncomputable abbrev bJm:M MF:=(ajc (bzI 9 5 3) (ajc (bzI 14 6 4) (ajc (bzI 11 7 4) (ajc (bzI 9 8 4) (ajc bQn (ajc bxf (ajc bX5 (ajc bX4 (ajc bxg (ajc bzc (ajc aVs (ajc bQH (ajc bQE (ajc bQc (ajc bKR
 (ajc bX3 (ajc bJV (ajc bQx (aqc (getL 20) 2)))))))))))))))))))
theorem bJT {m:Int}{n:Nat} (I:Inv o d R n) (hnn:n≤800)
  (h:∀ o' d' R' y3 y4 y5 y6 y7 y8 y9 y10 y11 y12 y13 y14 y15 y16 y17 y18 y19 y20 y21,Inv o' d' R' (n + 1)→o'.length=o.length→K .next ⟨[x0,.refs 1,.dict (emb d'),y3,y4,y5,y6,y7,y8,y9,y10,y11,y12,y13,y14,y15,y16,y17,y18,y19,y20,y21,x22,x23],o'⟩) :
  bJm ⟨[x0,.refs 1,.dict (emb d),.int m,x4,x5,x6,x7,x8,x9,x10,x11,x12,x13,x14,x15,x16,x17,x18,x19,x20,x21,x22,x23],o⟩ K E:=by
 refine aji fun K' kn kr kb kc=>bZW fun q0 kind hkind=>kn _ ?_
 refine aji fun K' kn kr kb kc=>bZV fun q1 pick hpick=>kn _ ?_
 refine aji fun K' kn kr kb kc=>bZU fun q2 what hwhat=>kn _ ?_
 refine aji fun K' kn kr kb kc=>bZT fun q3 spot hspot=>kn _ ?_
 refine aji fun K' kn kr kb kc=>bvB hpick fun x hmk hxl=>kn _ ?_
 refine aji fun K' kn kr kb kc=>bzM hmk hxl fun q4 x y10 y11 hm=>kn _ ?_
 have hl:=hm.1
 refine aji fun K' kn kr kb kc=>bZ3 hl (kn _ ?_)
 refine aji fun K' kn kr kb kc=>bZ2 hl (kn _ ?_)
 refine aji fun K' kn kr kb kc=>bzN hl fun y13 y14 y15=>kn _ ?_
 refine aji fun K' kn kr kb kc=>bzb (by walk_at "O") (kn _ ?_)
 refine aji fun K' kn kr kb kc=>bj6 (Nat.le_trans (ak0 aQQ x).length_le (by walk_at "O")) (kn _ ?_)
 have hnl:(nm x).length≤200:=Nat.le_trans (bqj x) hl
 refine aji fun K' kn kr kb kc=>bvQ (x:=nm x) (by walk_at "O") hnl fun kind1 hk1 hr1=>kn _ ?_
 refine aji fun K' kn kr kb kc=>bvH I.nd (avF I) hk1 hnl fun kind2 hk2 he2 hc2=>kn _ ?_
 refine aji fun K' kn kr kb kc=>bvl hwhat hspot fun v w hv hw=>kn _ ?_
 refine aji fun K' kn kr kb kc=>bQe I.nd fun old=>kn _ ?_
 exact bQX I hnn hm hk2 (fun z=>by rcases he2 with rfl | rfl;exact hr1 z;walk_at "O") hc2 hv hw fun o' d' R' y5 y9 y16 y17 y18 y19 y20 y21 hI hlen=>h _ _ _ _ _ _ _ _ _ _ _ _ _ _ _ _ _ _ _ _ _ _ hI hlen
theorem aKp {QF:MF→MSt→Prop}:∀ (ms:List Int) (o:List MO) (d R:D) (n:Nat) (x3 x4 x5 x6 x7 x8 x9 x10 x11 x12 x13 x14 x15 x16 x17 x18 x19 x20 x21:MV),Inv o d R n→n + ms.length≤800→
  (∀ o' d' R' y3 y4 y5 y6 y7 y8 y9 y10 y11 y12 y13 y14 y15 y16 y17 y18 y19 y20 y21,Inv o' d' R' (n + ms.length)→o'.length=o.length→QF .next ⟨[x0,.refs 1,.dict (emb d'),y3,y4,y5,y6,y7,y8,y9,y10,y11,y12,y13,y14,y15,y16,y17,y18,y19,y20,y21,x22,x23],o'⟩)→
  aqu (ms.map .int) (ajD 3) bJm ⟨[x0,.refs 1,.dict (emb d),x3,x4,x5,x6,x7,x8,x9,x10,x11,x12,x13,x14,x15,x16,x17,x18,x19,x20,x21,x22,x23],o⟩ QF E
 | [],o,d,R,n,x3,x4,x5,x6,x7,x8,x9,x10,x11,x12,x13,x14,x15,x16,x17,x18,x19,x20,x21,I,hn,h=>by
  exact h o d R _ _ _ _ _ _ _ _ _ _ _ _ _ _ _ _ _ _ _ I rfl
 | m::ms,o,d,R,n,x3,x4,x5,x6,x7,x8,x9,x10,x11,x12,x13,x14,x15,x16,x17,x18,x19,x20,x21,I,hn,h=>by
  rw [List.length_cons] at hn h
  show aqu (.int m::ms.map .int) (ajD 3) bJm _ QF E
  refine aJg fun K k1 k2 k3 k4=>?_
  walk_at "T"
  refine bJT I (by walk_at "O") fun o' d' R' y3 y4 y5 y6 y7 y8 y9 y10 y11 y12 y13 y14 y15 y16 y17 y18 y19 y20 y21 I' ho'=>k1 _ ?_
  refine aKp ms o' d' R' (n + 1) _ _ _ _ _ _ _ _ _ _ _ _ _ _ _ _ _ _ _ I' (by walk_at "O") fun o2 d2 R2 z3 z4 z5 z6 z7 z8 z9 z10 z11 z12 z13 z14 z15 z16 z17 z18 z19 z20 z21 I2 ho2=>?_
  exact h _ _ _ _ _ _ _ _ _ _ _ _ _ _ _ _ _ _ _ _ _ _ (by rw [show n + (ms.length + 1)=n + 1 + ms.length by walk_at "O"];exact I2) (ho2.trans ho')
end
end Mine
namespace Mine
open PySem PySem.W
theorem bvY {b:Bs} (h:b∈aJ3):b.length≤100∧b.head?≠some 47∧ajy false true [47] b=b∧b≠[]:=by
 have:∀ b∈aJ3,b.length≤100∧b.head?≠some 47∧ajy false true [47] b=b∧b≠[]:=by decide
 exact this b h
section
variable {l:List MV}{o:List MO}{d R:D}{n:Nat}{st:MSt}{Q:MV→MSt→Prop}{E:Value→MSt→Prop}{K:MF→MSt→Prop}{x0 x1 x2 x3 x4 x5 x6 x7 x8 x9 x10 x11 x12 x13 x14 x15 x16 x17 x18 x19 x20 x21 x22 x23:MV}
theorem bxH (I:Inv o d R n):(aj7 d).length≤n∧(aj7 R).length≤n:=by
 rw [List.length_map,List.length_map]
 exact ⟨I.len,I.lenR⟩
theorem aVj (I:Inv o d R n):(aj7 R).Perm (aj7 d):=(List.perm_ext_iff_of_nodup I.nR I.nd).mpr fun _=>az5 I
theorem aVr {a b:D} (ha:(aj7 a).Nodup) (hb:(aj7 b).Nodup) (h:∀ k,ajp a k=ajp b k) (hq:Q (.bool false) st):avE (.dict (emb a)) (.dict (emb b)) st Q E:=
 ⟨_,_,rfl,rfl,by rw [ajC];exact ha,by rw [ajC];exact hb,avb a,avb b,by rw [aKB ha hb h];exact hq⟩
theorem aZ6 {xs:List Bs} (h:xs.length < 64) (hq:∀ ys:List Bs,ys.Perm xs→ys.Pairwise bLe→Q (.list (ys.map MV.bytes)) st):aq6 [.set xs] st Q E:=⟨h,hq⟩
theorem aK1 {d:D} (hn:(aj7 d).Nodup) (h:(aj7 d).length < 64) (hq:∀ ys:List Bs,ys.Perm (aj7 d)→ys.Pairwise bLe→Q (.list (ys.map MV.bytes)) st):aq6 [.dict (emb d)] st Q E:=by
 show aqg _ _ _ _ _
 rw [ajC]
 exact ⟨hn,h,hq⟩
theorem bjF {xs:List Bs} (h:xs.length < 64) (hq:∀ ys:List Bs,ys.Perm xs→ys.Pairwise bLe→Q (.list (ys.map MV.bytes)) st):aq6 [.list (xs.map MV.bytes)] st Q E:=⟨xs,rfl,h,hq⟩
noncomputable abbrev bKb:M MF:=(ifM (ifM (ajh (bnd (aj0 (ajk ajK (getL 1) (ret []) aqy) (ret [])) aq6) (bnd (aj0 (getL 2) (ret [])) aq6) mNe aj3) (ret true) (ifM (ajh (bnd (aj0 (ajk ajK (getL 1) (ret []) av4) (ret [])) aq6) (bnd (aj0 (getL 2) (ret [])) aq6) mNe aj3) (ret true) (ifM (ajh (ajk ajK (getL 1) (ret []) akl) (bnd (aj0 (getL 2) (aj0 (ret (MV.bytes [])) (ret []))) aqS) avE aj3) (ret true) (ret false)))) (aju (ret (MV.bool false))) (ret MF.next))
theorem bvI (I:Inv o d R n) (hn:n≤60) (h:K .next ⟨[x0,.refs 1,.dict (emb d),x3,x4,x5,x6,x7,x8,x9,x10,x11,x12,x13,x14,x15,x16,x17,x18,x19,x20,x21,x22,x23],o⟩):bKb ⟨[x0,.refs 1,.dict (emb d),x3,x4,x5,x6,x7,x8,x9,x10,x11,x12,x13,x14,x15,x16,x17,x18,x19,x20,x21,x22,x23],o⟩ K E:=by
 have hI1:=I.len
 have hI2:=I.lenR
 obtain ⟨hl1,hl2⟩:=bxH I
 wide_open with [akV I.ref I.nR (show R.length≤1000 by walk_at "O"),bq6 I.ref I.nR (show R.length≤900 by walk_at "O")]
 refine aZ6 (by walk_at "O") fun ys hp hs=>?_
 wide_open with []
 refine aK1 I.nd (by walk_at "O") fun zs hp2 hs2=>?_
 have e:ys=zs:=aJv (hp.trans ((aVj I).trans hp2.symm)) hs hs2
 subst e
 wide_open with [aZq,bq6 I.ref I.nR (show R.length≤900 by walk_at "O")]
 refine aZ6 (by walk_at "O") fun ys hp hs=>?_
 wide_open with []
 refine aK1 I.nd (by walk_at "O") fun zs hp2 hs2=>?_
 have e:ys=zs:=aJv (hp.trans ((aVj I).trans hp2.symm)) hs hs2
 subst e
 wide_open with [aZq]
 refine aVS I.ref I.nR (aZF I) (by walk_at "O") (fun k hk=>by have:=(I.keys k ((az5 I).mp hk)).len;walk_at "O") (fun k hk=>(I.keys k ((az5 I).mp hk)).head) (fun k hk=>(I.keys k ((az5 I).mp hk)).last) fun a1 h1 h2=>?_
 wide_open with []
 refine bxu I.nd (avF I) (by walk_at "O") (by decide) (fun k hk=>by have:=(I.keys k hk).len;walk_at "O") fun a2 h3 h4=>?_
 refine aVr h1 h3 (fun k=>?_) ?_
 ·rw [h2,h4,aKy I.same]
  by_cases z:([]:Bs)++k∈aj7 d
  ·rw [if_pos z,if_pos ((az5 I).mpr z)]
  ·rw [if_neg z,if_neg (fun q=>z ((az5 I).mp q))]
 ·wide_open with []
  exact h
noncomputable abbrev bKa:M MF:=(ifM (ifM (ajh (bnd (aj0 (ajk ajK (getL 1) (aj0 (getL 22) (ret [])) ax2) (ret [])) aq6) (bnd (aj0 (bnd (aj0 (getL 2) (aj0 (ajs (getL 22) (ret (MV.bytes [47])) akc) (ret []))) az0) (ret [])) aq6) mNe aj3) (ret true) (ifM (ajh (ajk ajK (getL 1) (aj0 (getL 22) (ret [])) axq) (bnd (aj0 (getL 2) (aj0 (ajs (getL 22) (ret (MV.bytes [47])) akc) (ret []))) aqS) avE aj3) (ret true) (ret false))) (aju (ret (MV.bool false))) (ret MF.next))
theorem aKY {d:D} (h:(aj7 d).Nodup) (b:Bs):(((aj7 d).filter (fun k=>decide (k.take b.length=b))).map fun k=>k.drop b.length).Nodup:=by
 have h2:((aj7 d).filter (fun k=>decide (k.take b.length=b))).Nodup:=List.Pairwise.sublist List.filter_sublist h
 unfold List.Nodup at h2;unfold List.Nodup
 rw [List.pairwise_map]
 refine h2.imp_of_mem fun ha hb hne e=>hne ?_
 have ha':=of_decide_eq_true (List.mem_filter.mp ha).2
 have hb':=of_decide_eq_true (List.mem_filter.mp hb).2
 rw [← aky.mpr ⟨ha',rfl⟩,← aky.mpr ⟨hb',rfl⟩,e]
theorem bjs {d:D}{b x:Bs}:x∈(((aj7 d).filter (fun k=>decide (k.take b.length=b))).map fun k=>k.drop b.length)↔b++x∈aj7 d:=by
 rw [List.mem_map]
 constructor
 ·rintro ⟨k,hk,rfl⟩
  obtain ⟨h1,h2⟩:=List.mem_filter.mp hk
  rw [aky.mpr ⟨of_decide_eq_true h2,rfl⟩]
  exact h1
 ·intro h
  refine ⟨b++x,List.mem_filter.mpr ⟨h,?_⟩,?_⟩
  ·simp
  ·simp
theorem bqx {b:Bs} (hb:b∈aJ3) (I:Inv o d R n) (hn:n≤60) (h:K .next ⟨[x0,.refs 1,.dict (emb d),x3,x4,x5,x6,x7,x8,x9,x10,x11,x12,x13,x14,x15,x16,x17,x18,x19,x20,x21,.bytes b,x23],o⟩):bKa ⟨[x0,.refs 1,.dict (emb d),x3,x4,x5,x6,x7,x8,x9,x10,x11,x12,x13,x14,x15,x16,x17,x18,x19,x20,x21,.bytes b,x23],o⟩ K E:=by
 have hI1:=I.len
 have hI2:=I.lenR
 obtain ⟨hl1,hl2⟩:=bxH I
 refine aQd (bvY hb) fun b1 b2 b3 b4=>?_
 have kl:∀ k∈aj7 R,k.length≤900:=fun k hk=>by have:=(I.keys k ((az5 I).mp hk)).len;walk_at "O"
 have ks:∀ k∈aj7 R,k.take b.length=b→k.take (b.length + 1)=b++[47]:=fun k hk=>(I.keys k ((az5 I).mp hk)).base b hb
 have hadd:b.length + ([47]:Bs).length≤16777216:=by show b.length + 1≤_;walk_at "O"
 have hbl:(b++[47]).length≤900:=by rw [List.length_append];show b.length + 1≤_;walk_at "O"
 wide_open with []
 refine bxt I.ref I.nR (by walk_at "O") (by walk_at "O") kl ks fun xs h1 h2 h3=>?_
 refine aZ6 (by walk_at "O") fun ys hp hs=>?_
 wide_open with [hadd]
 refine bvn I.nd (by walk_at "O") hbl (fun k hk=>by have:=(I.keys k hk).len;walk_at "O") ?_
 have em:(((aj7 d).filter (fun k=>decide (k.take (b++[47]).length=b++[47]))).map fun k=>MV.bytes (k.drop (b++[47]).length))=(((aj7 d).filter (fun k=>decide (k.take (b++[47]).length=b++[47]))).map fun k=>k.drop (b++[47]).length).map MV.bytes:=by rw [List.map_map];rfl
 rw [em]
 have hul:(((aj7 d).filter (fun k=>decide (k.take (b++[47]).length=b++[47]))).map fun k=>k.drop (b++[47]).length).length < 64:=by
  rw [List.length_map]
  have:=List.length_filter_le (fun k=>decide (k.take (b++[47]).length=b++[47])) (aj7 d)
  walk_at "O"
 refine bjF hul fun zs hp2 hs2=>?_
 have e:ys=zs:=by
  refine aJv (hp.trans (List.Perm.trans ?_ hp2.symm)) hs hs2
  refine (List.perm_ext_iff_of_nodup h1 (aKY I.nd _)).mpr fun x=>?_
  rw [h2,bjs,az5 I]
 subst e
 wide_open with [aZq]
 refine bq7 I.ref I.nR (aZF I) (by walk_at "O") b1 b2 b3 b4 kl (fun k hk=>(I.keys k ((az5 I).mp hk)).last) ks fun a1 h1 h2=>?_
 wide_open with [hadd]
 refine bxu I.nd (avF I) (by walk_at "O") hbl (fun k hk=>by have:=(I.keys k hk).len;walk_at "O") fun a2 h3 h4=>?_
 refine aVr h1 h3 (fun k=>?_) ?_
 ·rw [h2,h4,aKy I.same]
  by_cases z:(b++[47])++k∈aj7 d
  ·rw [if_pos z,if_pos ((az5 I).mpr z)]
  ·rw [if_neg z,if_neg (fun q=>z ((az5 I).mp q))]
 ·wide_open with []
  exact h
end
end Mine
namespace Mine
open PySem PySem.W
section
variable {l:List MV}{o:List MO}{d R:D}{n:Nat}{st:MSt}{Q:MV→MSt→Prop}{E:Value→MSt→Prop}{K:MF→MSt→Prop}{x0 x1 x2 x3 x4 x5 x6 x7 x8 x9 x10 x11 x12 x13 x14 x15 x16 x17 x18 x19 x20 x21 x22 x23:MV}
noncomputable abbrev bxT:M MF:=(ifM (ajh (aje (ajs (getL 2) (getL 9) ajG) (ret MV.none) (ret (MV.int 5))) (ret (MV.bytes [114,101,102,58,32])) mEq aj3) (az9 (aje (ajs (getL 2) (getL 9) ajG) (ret (MV.int 5)) (ret MV.none)) (getL 23) (getL 9) aQX) (ret MF.next))
theorem bvR {k v:Bs} (hn:(aj7 d).Nodup) (h:ajp d k=some v):ajG (.dict (emb d)) (.bytes k) st Q E=Q (.bytes v) st:=bxD (l:=st.loc) (o:=st.objs) hn h
theorem aJM (hn:(aj7 d).Nodup) (hv:okV d) (hl:d.length≤900) {QF:MF→MSt→Prop}:∀ (r p:List Bs) (acc:D) (x9:MV),aj7 d=p++r→(aj7 acc).Nodup→acc.length≤p.length→(∀ k,ajp acc k=if k∈p then axv d k else none)→
  (∀ acc' x9',(aj7 acc').Nodup→(∀ k,ajp acc' k=if k∈aj7 d then axv d k else none)→QF .next ⟨[x0,x1,.dict (emb d),x3,x4,x5,x6,x7,x8,x9',x10,x11,x12,x13,x14,x15,x16,x17,x18,x19,x20,x21,x22,.obj o.length],o++[.dict (emb acc')]⟩)→
  aqu (r.map MV.bytes) (ajD 9) bxT ⟨[x0,x1,.dict (emb d),x3,x4,x5,x6,x7,x8,x9,x10,x11,x12,x13,x14,x15,x16,x17,x18,x19,x20,x21,x22,.obj o.length],o++[.dict (emb acc)]⟩ QF E
 | [],p,acc,x9,hd,ha,hal,hg,hq=>by
  rw [List.append_nil] at hd
  rw [← hd] at hg
  exact hq acc x9 ha hg
 | e::r,p,acc,x9,hd,ha,hal,hg,hq=>by
  show aqu (.bytes e::r.map MV.bytes) (ajD 9) bxT _ QF E
  have hem:e∈aj7 d:=by rw [hd];simp
  have hpl:p.length + 1≤d.length:=by
   have:(aj7 d).length=d.length:=by rw [List.length_map]
   rw [← this,hd,List.length_append,List.length_cons];walk_at "O"
  obtain ⟨v,hgv⟩:∃ v,ajp d e=some v:=by
   cases hz:ajp d e with
   | none=>exact absurd hem (az1.mp hz)
   | some v=>exact ⟨v,rfl⟩
  obtain ⟨v1,v2⟩:=akY hv hgv
  refine aJg fun K k1 k2 k3 k4=>?_
  walk_at "T"
  wide_open with [bvR hn hgv,avI,aKE,show v.length≤16777216 by walk_at "O",bz3]
  by_cases ht:v.take 5=akb
  ·have hlv:axv d e=some (v.drop 5):=by unfold axv;rw [hgv];exact if_pos ht
   wide_open with [decide_eq_true ht,dsN ha (show acc.length≤1000 by walk_at "O")]
   refine k1 _ (aJM hn hv hl r (p++[e]) _ _ (by rw [hd];simp) (azh ha _ _) (by have:=axr acc e (v.drop 5);rw [List.length_append,List.length_singleton];walk_at "O") (fun k=>?_) hq)
   rw [ak6,hg k]
   by_cases z:k=e
   ·subst z
    rw [if_pos rfl,if_pos (by simp),hlv]
   ·rw [if_neg z]
    simp [z]
  ·have hlv:axv d e=none:=by unfold axv;rw [hgv];exact if_neg ht
   wide_open with [decide_eq_false ht]
   refine k1 _ (aJM hn hv hl r (p++[e]) _ _ (by rw [hd];simp) ha (by rw [List.length_append];walk_at "O") (fun k=>?_) hq)
   rw [hg k]
   by_cases z:k=e
   ·subst z
    rw [hlv]
    simp
   ·simp [z]
noncomputable abbrev bKe:M MF:=(aju (ajs (ajk ajK (getL 1) (ret []) aqX) (getL 23) aXo))
theorem bvN {acc:D} (I:Inv o d R n) (hn:n≤60) (ha:(aj7 acc).Nodup) (hg:∀ k,ajp acc k=if k∈aj7 d then axv d k else none) (h:∀ st':MSt,st'.objs[0]? = some .tab→K (.ret (.bool true)) st'):bKe ⟨[x0,.refs 1,.dict (emb d),x3,x4,x5,x6,x7,x8,x9,x10,x11,x12,x13,x14,x15,x16,x17,x18,x19,x20,x21,x22,.obj o.length],o++[.dict (emb acc)]⟩ K E:=by
 have hI2:=I.lenR
 have h0:(o++[.dict (emb acc)])[0]? = some .tab:=by
  rw [List.getElem?_append_left (List.getElem?_eq_some_iff.mp I.tab).1];exact I.tab
 wide_open with []
 refine bq0 (axi I.ref) I.nR (aZF I) (by walk_at "O") (fun e he ht=>(I.vals e (bqH I he)).2.2 ht) fun a1 h1 h2=>?_
 wide_open with []
 refine ⟨emb a1,emb acc,rfl,?_,by rw [ajC];exact h1,by rw [ajC];exact ha,avb _,avb _,?_⟩
 ·show (match (o++[MO.dict (emb acc)])[o.length]? with | some (.dict es)=>some es | _=>none)=_
  rw [akx]
 ·rw [aKB h1 ha (fun k=>?_)]
  ·exact h _ h0
  ·rw [h2,hg]
   unfold axv
   rw [I.same]
   by_cases z:k∈aj7 d
   ·rw [if_pos z]
   ·rw [if_neg z,az1.mpr z]
theorem hlaw (ns:List Int) (hlen:ns.length≤63):aQI ⟨.list (ns.map .int)::List.replicate 23 .unb,[.tab]⟩ (fun f st'=>f = .ret (.bool true)∧st'.objs[0]? = some .tab) (fun _ _=>False):=by
 have hR:axo=axo:=rfl
 refine aji fun K kn kr kb kc=>?_
 have newR:∀ {l:List MV}{Q:MV→MSt→Prop}{E:Value→MSt→Prop},axo ⟨l,[.tab]⟩ Q E=Q (.refs 1) ⟨l,[.tab,.dict []]⟩:=rfl
 wide_open with [newR,List.length_cons,List.length_nil,List.reverse_cons,List.reverse_nil,List.nil_append,List.cons_append]
 refine kn _ ?_
 have I0:Inv [.tab,.dict (emb [])] [] [] 0:=⟨rfl,rfl,List.nodup_nil,List.nodup_nil,fun _=>rfl,Nat.le_refl _,Nat.le_refl _,(fun _ h=>by cases h),(fun _ h=>by cases h)⟩
 refine aji fun K kn kr kb kc=>?_
 have hcut:axx (ns.map MV.int) none (some 10)=(ns.take 10).map MV.int:=by rw [List.map_take];exact aks (ns.map MV.int) 10
 have ht:(ns.take 10).length≤10:=by rw [List.length_take];walk_at "O"
 have hsl:∀ {st:MSt}{Q:MV→MSt→Prop}{E:Value→MSt→Prop},Q (.list ((ns.take 10).map MV.int)) st→av6 (.list (ns.map MV.int)) .none (.int 10) st Q E:=fun {st Q E} q=>by
  rw [aV0,hcut]
  exact ⟨by rw [List.length_map];walk_at "O",q⟩
 simp only [aQl,aK4,bxK,List.getD_cons_zero,bjq]
 refine hsl ?_
 refine aKp (ns.take 10) _ [] [] 0 .unb .unb .unb .unb .unb .unb .unb .unb .unb .unb .unb .unb .unb .unb .unb .unb .unb .unb .unb I0 (by walk_at "O") fun o d R y3 y4 y5 y6 y7 y8 y9 y10 y11 y12 y13 y14 y15 y16 y17 y18 y19 y20 y21 I ho=>kn _ ?_
 have hn:0 + (ns.take 10).length≤60:=by walk_at "O"
 refine aji fun K kn kr kb kc=>bvI I hn (kn _ ?_)
 refine aji fun K kn kr kb kc=>?_
 wide_open with [List.length_cons,List.length_nil]
 refine aJg fun K1 k1 k2 k3 k4=>?_
 refine bqx (b:=[114,101,102,115,47,104,101,97,100,115]) (by decide) I hn (k1 _ ?_)
 refine aJg fun K1 k1 k2 k3 k4=>?_
 refine bqx (b:=[114,101,102,115,47,116,97,103,115]) (by decide) I hn (k1 _ ?_)
 refine kn _ ?_
 refine aji fun K kn kr kb kc=>?_
 wide_open with []
 refine kn _ ?_
 refine aji fun K kn kr kb kc=>?_
 wide_open with [ajC,I.nd]
 refine aJM I.nd (avF I) (by have:=I.len;walk_at "O") (aj7 d) [] [] _ rfl List.nodup_nil (Nat.le_refl _) (fun k=>by simp [ajp]) fun acc x9 h1 h2=>kn _ ?_
 exact bvN I hn h1 h2 fun st' h=>⟨rfl,h⟩
end
end Mine
theorem PySem.Challenge.cw_ji0035_01_holds : PySem.Challenge.rw_ji0035_01.Holds :=
  Mine.holdsIf Mine.hlaw
