import PyProof.Rows.All
import Wide.All
import OpenK.AllK
import Wide.FinOn
import Open.Tops
import Lean
import PySem.Challenge.RW_aj5038_01
open PySem PySem.W PySem.W.X PyProof.Rows PySem.Calls
set_option Elab.async false
set_option linter.unusedVariables false
set_option linter.unusedSimpArgs false
set_option maxRecDepth 100000
section -- Lfr
open PySem PySem.W PySem.W.X PyProof.Rows
set_option maxHeartbeats 8000000
namespace Mine
theorem law_from_row (h : PySem.Challenge.rw_aj5038_01.row.wellSaid = true → PySem.Challenge.rw_aj5038_01.row.Holds) : PySem.Challenge.rw_aj5038_01.Holds := by
  o_law
  exact h (by assumption)
end Mine
end -- Lfr
section
set_option maxHeartbeats 0
namespace Mine
open_shared pre for PySem.Challenge.pw_aj5038_01 leaving 51
end Mine
end
section -- HD
open PySem PySem.W PySem.W.X PyProof.Rows
set_option maxHeartbeats 0
namespace Mine
noncomputable def n0 : Str := ⟨Array.mk [nat_lit 105, nat_lit 115, nat_lit 105, nat_lit 110, nat_lit 115, nat_lit 116, nat_lit 97, nat_lit 110, nat_lit 99, nat_lit 101]⟩
noncomputable def n1 : Str := ⟨Array.mk [nat_lit 99, nat_lit 104, nat_lit 97, nat_lit 114, nat_lit 109, nat_lit 97, nat_lit 112]⟩
noncomputable def n2 : Str := ⟨Array.mk [nat_lit 117, nat_lit 110, nat_lit 105, nat_lit 99, nat_lit 111, nat_lit 100, nat_lit 101]⟩
noncomputable def n6 : Str := ⟨Array.mk [nat_lit 69, nat_lit 120, nat_lit 112, nat_lit 101, nat_lit 99, nat_lit 116, nat_lit 101, nat_lit 100, nat_lit 83, nat_lit 116, nat_lit 114, nat_lit 105, nat_lit 110, nat_lit 103, nat_lit 69, nat_lit 114, nat_lit 114, nat_lit 111, nat_lit 114]⟩
noncomputable def n12 : Str := ⟨Array.mk [nat_lit 115, nat_lit 101, nat_lit 108, nat_lit 102]⟩
noncomputable def n13 : Str := ⟨Array.mk [nat_lit 98, nat_lit 121, nat_lit 116, nat_lit 101, nat_lit 109, nat_lit 97, nat_lit 112]⟩
noncomputable def n14 : Str := ⟨Array.mk [nat_lit 95, nat_lit 101, nat_lit 110, nat_lit 99, nat_lit 111, nat_lit 100, nat_lit 101, nat_lit 54, nat_lit 52]⟩
noncomputable def n16 : Str := ⟨Array.mk [nat_lit 108, nat_lit 111, nat_lit 111, nat_lit 107, nat_lit 117, nat_lit 112]⟩
noncomputable def n18 : Str := ⟨Array.mk [nat_lit 118, nat_lit 97, nat_lit 108, nat_lit 117, nat_lit 101]⟩
noncomputable def n19 : Str := ⟨Array.mk [nat_lit 105, nat_lit 100, nat_lit 120]⟩
noncomputable def n21 : Str := ⟨Array.mk [nat_lit 46, nat_lit 48]⟩
noncomputable def n22 : Str := ⟨Array.mk [nat_lit 95, nat_lit 100, nat_lit 101, nat_lit 99, nat_lit 111, nat_lit 100, nat_lit 101, nat_lit 54, nat_lit 52]⟩
noncomputable def n23 : Str := ⟨Array.mk [nat_lit 98, nat_lit 105, nat_lit 103]⟩
noncomputable def n24 : Str := ⟨Array.mk [nat_lit 95, nat_lit 101, nat_lit 110, nat_lit 99, nat_lit 111, nat_lit 100, nat_lit 101, nat_lit 95, nat_lit 98, nat_lit 121, nat_lit 116, nat_lit 101, nat_lit 115]⟩
noncomputable def n26 : Str := ⟨Array.mk [nat_lit 95, nat_lit 100, nat_lit 101, nat_lit 99, nat_lit 111, nat_lit 100, nat_lit 101, nat_lit 95, nat_lit 98, nat_lit 121, nat_lit 116, nat_lit 101, nat_lit 115]⟩
noncomputable def n30 : Str := ⟨Array.mk [nat_lit 104, nat_lit 54, nat_lit 52]⟩
noncomputable def n31 : Str := ⟨Array.mk [nat_lit 76, nat_lit 97, nat_lit 122, nat_lit 121, nat_lit 66, nat_lit 97, nat_lit 115, nat_lit 101, nat_lit 54, nat_lit 52, nat_lit 69, nat_lit 110, nat_lit 103, nat_lit 105, nat_lit 110, nat_lit 101]⟩
noncomputable def n32 : Str := ⟨Array.mk [nat_lit 72, nat_lit 65, nat_lit 83, nat_lit 72, nat_lit 54, nat_lit 52, nat_lit 95, nat_lit 67, nat_lit 72, nat_lit 65, nat_lit 82, nat_lit 83]⟩
noncomputable def n33 : Str := ⟨Array.mk [nat_lit 66, nat_lit 97, nat_lit 115, nat_lit 101, nat_lit 54, nat_lit 52, nat_lit 69, nat_lit 110, nat_lit 103, nat_lit 105, nat_lit 110, nat_lit 101, nat_lit 46, nat_lit 95, nat_lit 95, nat_lit 105, nat_lit 110, nat_lit 105, nat_lit 116, nat_lit 95, nat_lit 95, nat_lit 46, nat_lit 60, nat_lit 108, nat_lit 111, nat_lit 99, nat_lit 97, nat_lit 108, nat_lit 115, nat_lit 62, nat_lit 46]⟩
noncomputable def n34 : Str := ⟨Array.mk [nat_lit 46, nat_lit 47, nat_lit 48, nat_lit 49, nat_lit 50, nat_lit 51, nat_lit 52, nat_lit 53, nat_lit 54, nat_lit 55, nat_lit 56, nat_lit 57, nat_lit 65, nat_lit 66, nat_lit 67, nat_lit 68, nat_lit 69, nat_lit 70, nat_lit 71, nat_lit 72, nat_lit 73, nat_lit 74, nat_lit 75, nat_lit 76, nat_lit 77, nat_lit 78, nat_lit 79, nat_lit 80, nat_lit 81, nat_lit 82, nat_lit 83, nat_lit 84, nat_lit 85, nat_lit 86, nat_lit 87, nat_lit 88, nat_lit 89, nat_lit 90, nat_lit 97, nat_lit 98, nat_lit 99, nat_lit 100, nat_lit 101, nat_lit 102, nat_lit 103, nat_lit 104, nat_lit 105, nat_lit 106, nat_lit 107, nat_lit 108, nat_lit 109, nat_lit 110, nat_lit 111, nat_lit 112, nat_lit 113, nat_lit 114, nat_lit 115, nat_lit 116, nat_lit 117, nat_lit 118, nat_lit 119, nat_lit 120, nat_lit 121, nat_lit 122]⟩
noncomputable def n35 : Str := ⟨Array.mk [nat_lit 60, nat_lit 103, nat_lit 101, nat_lit 110, nat_lit 101, nat_lit 120, nat_lit 112, nat_lit 114, nat_lit 62]⟩
noncomputable def n36 : Str := ⟨Array.mk [nat_lit 66, nat_lit 97, nat_lit 115, nat_lit 101, nat_lit 54, nat_lit 52, nat_lit 69, nat_lit 110, nat_lit 103, nat_lit 105, nat_lit 110, nat_lit 101, nat_lit 46, nat_lit 95, nat_lit 95, nat_lit 105, nat_lit 110, nat_lit 105, nat_lit 116, nat_lit 95, nat_lit 95, nat_lit 46, nat_lit 60, nat_lit 108, nat_lit 111, nat_lit 99, nat_lit 97, nat_lit 108, nat_lit 115, nat_lit 62, nat_lit 46, nat_lit 60, nat_lit 103, nat_lit 101, nat_lit 110, nat_lit 101, nat_lit 120, nat_lit 112, nat_lit 114, nat_lit 62]⟩
noncomputable def n37 : Str := ⟨Array.mk [nat_lit 47, nat_lit 99, nat_lit 108, nat_lit 97, nat_lit 105, nat_lit 109, nat_lit 47, nat_lit 99, nat_lit 117, nat_lit 116, nat_lit 46, nat_lit 112, nat_lit 121]⟩
noncomputable def n38 : Str := ⟨Array.mk [nat_lit 39, nat_lit 103, nat_lit 101, nat_lit 110, nat_lit 101, nat_lit 114, nat_lit 97, nat_lit 116, nat_lit 111, nat_lit 114, nat_lit 39, nat_lit 32, nat_lit 111, nat_lit 98, nat_lit 106, nat_lit 101, nat_lit 99, nat_lit 116, nat_lit 32, nat_lit 104, nat_lit 97, nat_lit 115, nat_lit 32, nat_lit 110, nat_lit 111, nat_lit 32, nat_lit 97, nat_lit 116, nat_lit 116, nat_lit 114, nat_lit 105, nat_lit 98, nat_lit 117, nat_lit 116, nat_lit 101, nat_lit 32, nat_lit 39, nat_lit 107, nat_lit 101, nat_lit 121, nat_lit 115, nat_lit 39]⟩
noncomputable def n39 : Str := ⟨Array.mk [nat_lit 107, nat_lit 101, nat_lit 121, nat_lit 115]⟩
noncomputable def n40 : Str := ⟨Array.mk [nat_lit 66, nat_lit 97, nat_lit 115, nat_lit 101, nat_lit 54, nat_lit 52, nat_lit 69, nat_lit 110, nat_lit 103, nat_lit 105, nat_lit 110, nat_lit 101, nat_lit 46, nat_lit 95, nat_lit 95, nat_lit 105, nat_lit 110, nat_lit 105, nat_lit 116, nat_lit 95, nat_lit 95, nat_lit 46, nat_lit 60, nat_lit 108, nat_lit 111, nat_lit 99, nat_lit 97, nat_lit 108, nat_lit 115, nat_lit 62, nat_lit 46, nat_lit 60, nat_lit 103, nat_lit 101, nat_lit 110, nat_lit 101, nat_lit 120, nat_lit 112, nat_lit 114, nat_lit 62, nat_lit 46]⟩
noncomputable def n41 : Str := ⟨Array.mk [nat_lit 95, nat_lit 95, nat_lit 110, nat_lit 97, nat_lit 109, nat_lit 101, nat_lit 95, nat_lit 95]⟩
noncomputable def n42 : Str := ⟨Array.mk [nat_lit 112, nat_lit 97, nat_lit 115, nat_lit 115, nat_lit 108, nat_lit 105, nat_lit 98, nat_lit 46, nat_lit 117, nat_lit 116, nat_lit 105, nat_lit 108, nat_lit 115, nat_lit 46, nat_lit 98, nat_lit 105, nat_lit 110, nat_lit 97, nat_lit 114, nat_lit 121]⟩
noncomputable def n43 : Str := ⟨Array.mk [nat_lit 95, nat_lit 95, nat_lit 100, nat_lit 111, nat_lit 99, nat_lit 95, nat_lit 95]⟩
noncomputable def n44 : Str := ⟨Array.mk [nat_lit 95, nat_lit 95, nat_lit 112, nat_lit 97, nat_lit 99, nat_lit 107, nat_lit 97, nat_lit 103, nat_lit 101, nat_lit 95, nat_lit 95]⟩
noncomputable def n45 : Str := ⟨Array.mk [nat_lit 95, nat_lit 95, nat_lit 108, nat_lit 111, nat_lit 97, nat_lit 100, nat_lit 101, nat_lit 114, nat_lit 95, nat_lit 95]⟩
noncomputable def n46 : Str := ⟨Array.mk [nat_lit 95, nat_lit 95, nat_lit 115, nat_lit 112, nat_lit 101, nat_lit 99, nat_lit 95, nat_lit 95]⟩
noncomputable def n47 : Str := ⟨Array.mk [nat_lit 95, nat_lit 95, nat_lit 97, nat_lit 110, nat_lit 110, nat_lit 111, nat_lit 116, nat_lit 97, nat_lit 116, nat_lit 105, nat_lit 111, nat_lit 110, nat_lit 115, nat_lit 95, nat_lit 95]⟩
noncomputable def n48 : Str := ⟨Array.mk [nat_lit 95, nat_lit 95, nat_lit 98, nat_lit 117, nat_lit 105, nat_lit 108, nat_lit 116, nat_lit 105, nat_lit 110, nat_lit 115, nat_lit 95, nat_lit 95]⟩
noncomputable def n49 : Str := ⟨Array.mk [nat_lit 95, nat_lit 95, nat_lit 102, nat_lit 105, nat_lit 108, nat_lit 101, nat_lit 95, nat_lit 95]⟩
noncomputable def n50 : Str := ⟨Array.mk [nat_lit 95, nat_lit 95, nat_lit 99, nat_lit 97, nat_lit 99, nat_lit 104, nat_lit 101, nat_lit 100, nat_lit 95, nat_lit 95]⟩
noncomputable def n51 : Str := ⟨Array.mk [nat_lit 95, nat_lit 119, nat_lit 97, nat_lit 108, nat_lit 108]⟩
noncomputable def n52 : Str := ⟨Array.mk [nat_lit 114, nat_lit 101, nat_lit 112, nat_lit 101, nat_lit 97, nat_lit 116, nat_lit 95, nat_lit 115, nat_lit 116, nat_lit 114, nat_lit 105, nat_lit 110, nat_lit 103]⟩
noncomputable def n53 : Str := ⟨Array.mk [nat_lit 80, nat_lit 97, nat_lit 115, nat_lit 115, nat_lit 119, nat_lit 111, nat_lit 114, nat_lit 100, nat_lit 86, nat_lit 97, nat_lit 108, nat_lit 117, nat_lit 101, nat_lit 69, nat_lit 114, nat_lit 114, nat_lit 111, nat_lit 114]⟩
noncomputable def n54 : Str := ⟨Array.mk [nat_lit 95, nat_lit 103, nat_lit 101, nat_lit 116, nat_lit 95, nat_lit 110, nat_lit 97, nat_lit 109, nat_lit 101]⟩
noncomputable def n55 : Str := ⟨Array.mk [nat_lit 69, nat_lit 120, nat_lit 112, nat_lit 101, nat_lit 99, nat_lit 116, nat_lit 101, nat_lit 100, nat_lit 84, nat_lit 121, nat_lit 112, nat_lit 101, nat_lit 69, nat_lit 114, nat_lit 114, nat_lit 111, nat_lit 114]⟩
noncomputable def n56 : Str := ⟨Array.mk [nat_lit 78, nat_lit 117, nat_lit 108, nat_lit 108, nat_lit 80, nat_lit 97, nat_lit 115, nat_lit 115, nat_lit 119, nat_lit 111, nat_lit 114, nat_lit 100, nat_lit 69, nat_lit 114, nat_lit 114, nat_lit 111, nat_lit 114]⟩
noncomputable def n57 : Str := ⟨Array.mk [nat_lit 80, nat_lit 89, nat_lit 51]⟩
noncomputable def n58 : Str := ⟨Array.mk [nat_lit 106, nat_lit 111, nat_lit 105, nat_lit 110, nat_lit 95, nat_lit 98, nat_lit 121, nat_lit 116, nat_lit 101, nat_lit 95, nat_lit 118, nat_lit 97, nat_lit 108, nat_lit 117, nat_lit 101, nat_lit 115]⟩
noncomputable def n59 : Str := ⟨Array.mk [nat_lit 106, nat_lit 111, nat_lit 105, nat_lit 110, nat_lit 95, nat_lit 98, nat_lit 121, nat_lit 116, nat_lit 101, nat_lit 95, nat_lit 101, nat_lit 108, nat_lit 101, nat_lit 109, nat_lit 115]⟩
noncomputable def n60 : Str := ⟨Array.mk [nat_lit 98, nat_lit 121, nat_lit 116, nat_lit 101, nat_lit 95, nat_lit 101, nat_lit 108, nat_lit 101, nat_lit 109, nat_lit 95, nat_lit 118, nat_lit 97, nat_lit 108, nat_lit 117, nat_lit 101]⟩
noncomputable def n61 : Str := ⟨Array.mk [nat_lit 105, nat_lit 110, nat_lit 116, nat_lit 95, nat_lit 116, nat_lit 121, nat_lit 112, nat_lit 101, nat_lit 115]⟩
noncomputable def n62 : Str := ⟨Array.mk [nat_lit 105, nat_lit 114, nat_lit 97, nat_lit 110, nat_lit 103, nat_lit 101]⟩
noncomputable def n63 : Str := ⟨Array.mk [nat_lit 105, nat_lit 109, nat_lit 97, nat_lit 112]⟩
noncomputable def n64 : Str := ⟨Array.mk [nat_lit 110, nat_lit 101, nat_lit 120, nat_lit 116, nat_lit 103, nat_lit 101, nat_lit 116, nat_lit 116, nat_lit 101, nat_lit 114]⟩
noncomputable def n65 : Str := ⟨Array.mk [nat_lit 66, nat_lit 97, nat_lit 115, nat_lit 101, nat_lit 54, nat_lit 52, nat_lit 69, nat_lit 110, nat_lit 103, nat_lit 105, nat_lit 110, nat_lit 101]⟩
noncomputable def n66 : Str := ⟨Array.mk [nat_lit 104, nat_lit 54, nat_lit 52, nat_lit 98, nat_lit 105, nat_lit 103]⟩
noncomputable def n67 : Str := ⟨Array.mk [nat_lit 112, nat_lit 97, nat_lit 115, nat_lit 115, nat_lit 108, nat_lit 105, nat_lit 98, nat_lit 46, nat_lit 99, nat_lit 114, nat_lit 121, nat_lit 112, nat_lit 116, nat_lit 111, nat_lit 46, nat_lit 100, nat_lit 101, nat_lit 115]⟩
noncomputable def n68 : Str := ⟨Array.mk [nat_lit 73, nat_lit 78, nat_lit 84, nat_lit 95, nat_lit 50, nat_lit 52, nat_lit 95, nat_lit 77, nat_lit 65, nat_lit 83, nat_lit 75]⟩
noncomputable def n69 : Str := ⟨Array.mk [nat_lit 73, nat_lit 78, nat_lit 84, nat_lit 95, nat_lit 54, nat_lit 52, nat_lit 95, nat_lit 77, nat_lit 65, nat_lit 83, nat_lit 75]⟩
noncomputable def n70 : Str := ⟨Array.mk [nat_lit 95, nat_lit 75, nat_lit 83, nat_lit 95, nat_lit 77, nat_lit 65, nat_lit 83, nat_lit 75]⟩
noncomputable def n71 : Str := ⟨Array.mk [nat_lit 80, nat_lit 67, nat_lit 49, nat_lit 82, nat_lit 79, nat_lit 84]⟩
noncomputable def n72 : Str := ⟨Array.mk [nat_lit 80, nat_lit 67, nat_lit 50, nat_lit 82, nat_lit 79, nat_lit 84, nat_lit 65]⟩
noncomputable def n73 : Str := ⟨Array.mk [nat_lit 80, nat_lit 67, nat_lit 50, nat_lit 82, nat_lit 79, nat_lit 84, nat_lit 66]⟩
noncomputable def n74 : Str := ⟨Array.mk [nat_lit 80, nat_lit 67, nat_lit 88, nat_lit 82, nat_lit 79, nat_lit 84]⟩
noncomputable def n75 : Str := ⟨Array.mk [nat_lit 73, nat_lit 69, nat_lit 51, nat_lit 50, nat_lit 54, nat_lit 52]⟩
noncomputable def n76 : Str := ⟨Array.mk [nat_lit 83, nat_lit 80, nat_lit 69]⟩
noncomputable def n77 : Str := ⟨Array.mk [nat_lit 67, nat_lit 70, nat_lit 54, nat_lit 52, nat_lit 54, nat_lit 52]⟩
noncomputable def n78 : Str := ⟨Array.mk [nat_lit 95, nat_lit 112, nat_lit 101, nat_lit 114, nat_lit 109, nat_lit 117, nat_lit 116, nat_lit 101]⟩
noncomputable def n79 : Str := ⟨Array.mk [nat_lit 99]⟩
noncomputable def n80 : Str := ⟨Array.mk [nat_lit 112]⟩
noncomputable def n81 : Str := ⟨Array.mk [nat_lit 111, nat_lit 117, nat_lit 116]⟩
noncomputable def n82 : Str := ⟨Array.mk [nat_lit 114]⟩
noncomputable def n83 : Str := ⟨Array.mk [nat_lit 112, nat_lit 97, nat_lit 115, nat_lit 115, nat_lit 108, nat_lit 105, nat_lit 98, nat_lit 46, nat_lit 104, nat_lit 97, nat_lit 110, nat_lit 100, nat_lit 108, nat_lit 101, nat_lit 114, nat_lit 115, nat_lit 46, nat_lit 100, nat_lit 101, nat_lit 115, nat_lit 95, nat_lit 99, nat_lit 114, nat_lit 121, nat_lit 112, nat_lit 116]⟩
noncomputable def n84 : Str := ⟨Array.mk [nat_lit 100, nat_lit 101, nat_lit 115, nat_lit 95, nat_lit 101, nat_lit 110, nat_lit 99, nat_lit 114, nat_lit 121, nat_lit 112, nat_lit 116, nat_lit 95, nat_lit 105, nat_lit 110, nat_lit 116, nat_lit 95, nat_lit 98, nat_lit 108, nat_lit 111, nat_lit 99, nat_lit 107]⟩
noncomputable def n85 : Str := ⟨Array.mk [nat_lit 66, nat_lit 78, nat_lit 85, nat_lit 76, nat_lit 76, nat_lit 95, nat_lit 100, nat_lit 101, nat_lit 115, nat_lit 95, nat_lit 99, nat_lit 114, nat_lit 121, nat_lit 112, nat_lit 116]⟩
noncomputable def n86 : Str := ⟨Array.mk [nat_lit 95, nat_lit 99, nat_lit 114, nat_lit 121, nat_lit 112, nat_lit 116, nat_lit 95, nat_lit 115, nat_lit 101, nat_lit 99, nat_lit 114, nat_lit 101, nat_lit 116, nat_lit 95, nat_lit 116, nat_lit 111, nat_lit 95, nat_lit 107, nat_lit 101, nat_lit 121]⟩
noncomputable def n87 : Str := ⟨Array.mk [nat_lit 95, nat_lit 114, nat_lit 97, nat_lit 119, nat_lit 95, nat_lit 100, nat_lit 101, nat_lit 115, nat_lit 95, nat_lit 99, nat_lit 114, nat_lit 121, nat_lit 112, nat_lit 116]⟩
noncomputable def n88 : Str := ⟨Array.mk [nat_lit 95, nat_lit 98, nat_lit 115, nat_lit 100, nat_lit 105, nat_lit 95, nat_lit 115, nat_lit 101, nat_lit 99, nat_lit 114, nat_lit 101, nat_lit 116, nat_lit 95, nat_lit 116, nat_lit 111, nat_lit 95, nat_lit 107, nat_lit 101, nat_lit 121]⟩
noncomputable def n89 : Str := ⟨Array.mk [nat_lit 95, nat_lit 114, nat_lit 97, nat_lit 119, nat_lit 95, nat_lit 98, nat_lit 115, nat_lit 100, nat_lit 105, nat_lit 95, nat_lit 99, nat_lit 114, nat_lit 121, nat_lit 112, nat_lit 116]⟩
noncomputable def n90 : Str := ⟨Array.mk [nat_lit 107, nat_lit 101, nat_lit 121]⟩
noncomputable def n91 : Str := ⟨Array.mk [nat_lit 115, nat_lit 111, nat_lit 117, nat_lit 114, nat_lit 99, nat_lit 101]⟩
noncomputable def n92 : Str := ⟨Array.mk [nat_lit 115, nat_lit 97, nat_lit 108, nat_lit 116]⟩
noncomputable def n93 : Str := ⟨Array.mk [nat_lit 114, nat_lit 111, nat_lit 117, nat_lit 110, nat_lit 100, nat_lit 115]⟩
noncomputable def n94 : Str := ⟨Array.mk [nat_lit 83, nat_lit 80, nat_lit 69, nat_lit 48]⟩
noncomputable def n95 : Str := ⟨Array.mk [nat_lit 83, nat_lit 80, nat_lit 69, nat_lit 49]⟩
noncomputable def n96 : Str := ⟨Array.mk [nat_lit 83, nat_lit 80, nat_lit 69, nat_lit 50]⟩
noncomputable def n97 : Str := ⟨Array.mk [nat_lit 83, nat_lit 80, nat_lit 69, nat_lit 51]⟩
noncomputable def n98 : Str := ⟨Array.mk [nat_lit 83, nat_lit 80, nat_lit 69, nat_lit 52]⟩
noncomputable def n99 : Str := ⟨Array.mk [nat_lit 83, nat_lit 80, nat_lit 69, nat_lit 53]⟩
noncomputable def n100 : Str := ⟨Array.mk [nat_lit 83, nat_lit 80, nat_lit 69, nat_lit 54]⟩
noncomputable def n101 : Str := ⟨Array.mk [nat_lit 83, nat_lit 80, nat_lit 69, nat_lit 55]⟩
noncomputable def n102 : Str := ⟨Array.mk [nat_lit 95, nat_lit 105, nat_lit 116, nat_lit 101, nat_lit 114, nat_lit 95, nat_lit 107, nat_lit 101, nat_lit 121, nat_lit 95, nat_lit 115, nat_lit 99, nat_lit 104, nat_lit 101, nat_lit 100, nat_lit 117, nat_lit 108, nat_lit 101]⟩
noncomputable def n103 : Str := ⟨Array.mk [nat_lit 107, nat_lit 115, nat_lit 95, nat_lit 108, nat_lit 105, nat_lit 115, nat_lit 116]⟩
noncomputable def n104 : Str := ⟨Array.mk [nat_lit 76]⟩
noncomputable def n105 : Str := ⟨Array.mk [nat_lit 82]⟩
noncomputable def n106 : Str := ⟨Array.mk [nat_lit 107, nat_lit 115, nat_lit 95, nat_lit 101, nat_lit 118, nat_lit 101, nat_lit 110]⟩
noncomputable def n107 : Str := ⟨Array.mk [nat_lit 107, nat_lit 115, nat_lit 95, nat_lit 111, nat_lit 100, nat_lit 100]⟩
noncomputable def n108 : Str := ⟨Array.mk [nat_lit 107]⟩
noncomputable def n109 : Str := ⟨Array.mk [nat_lit 66]⟩
noncomputable def n110 : Str := ⟨Array.mk [nat_lit 67]⟩
noncomputable def n111 : Str := ⟨Array.mk [nat_lit 115, nat_lit 101, nat_lit 99, nat_lit 114, nat_lit 101, nat_lit 116]⟩
noncomputable def n112 : Str := ⟨Array.mk [nat_lit 115, nat_lit 97, nat_lit 108, nat_lit 116, nat_lit 95, nat_lit 118, nat_lit 97, nat_lit 108, nat_lit 117, nat_lit 101]⟩
noncomputable def n113 : Str := ⟨Array.mk [nat_lit 107, nat_lit 101, nat_lit 121, nat_lit 95, nat_lit 118, nat_lit 97, nat_lit 108, nat_lit 117, nat_lit 101]⟩
noncomputable def n114 : Str := ⟨Array.mk [nat_lit 114, nat_lit 101, nat_lit 115, nat_lit 117, nat_lit 108, nat_lit 116]⟩
noncomputable def n115 : Str := ⟨Array.mk [nat_lit 101, nat_lit 110, nat_lit 100]⟩
noncomputable def n116 : Str := ⟨Array.mk [nat_lit 110, nat_lit 101, nat_lit 120, nat_lit 116]⟩
noncomputable def n117 : Str := ⟨Array.mk [nat_lit 116, nat_lit 109, nat_lit 112, nat_lit 95, nat_lit 118, nat_lit 97, nat_lit 108, nat_lit 117, nat_lit 101]⟩
noncomputable def n118 : Str := ⟨Array.mk [nat_lit 100, nat_lit 101, nat_lit 115, nat_lit 95, nat_lit 99, nat_lit 114, nat_lit 121, nat_lit 112, nat_lit 116]⟩
noncomputable def n119 : Str := ⟨Array.mk [nat_lit 95, nat_lit 95, nat_lit 109, nat_lit 111, nat_lit 100, nat_lit 117, nat_lit 108, nat_lit 101, nat_lit 95, nat_lit 95]⟩
noncomputable def n120 : Str := ⟨Array.mk [nat_lit 95, nat_lit 95, nat_lit 113, nat_lit 117, nat_lit 97, nat_lit 108, nat_lit 110, nat_lit 97, nat_lit 109, nat_lit 101, nat_lit 95, nat_lit 95]⟩
noncomputable def n121 : Str := ⟨Array.mk [nat_lit 95, nat_lit 95, nat_lit 102, nat_lit 105, nat_lit 114, nat_lit 115, nat_lit 116, nat_lit 108, nat_lit 105, nat_lit 110, nat_lit 101, nat_lit 110, nat_lit 111, nat_lit 95, nat_lit 95]⟩
noncomputable def n122 : Str := ⟨Array.mk [nat_lit 110, nat_lit 97, nat_lit 109, nat_lit 101]⟩
noncomputable def n123 : Str := ⟨Array.mk [nat_lit 95, nat_lit 95, nat_lit 115, nat_lit 116, nat_lit 97, nat_lit 116, nat_lit 105, nat_lit 99, nat_lit 95, nat_lit 97, nat_lit 116, nat_lit 116, nat_lit 114, nat_lit 105, nat_lit 98, nat_lit 117, nat_lit 116, nat_lit 101, nat_lit 115, nat_lit 95, nat_lit 95]⟩
noncomputable def n124 : Str := ⟨Array.mk [nat_lit 95, nat_lit 95, nat_lit 100, nat_lit 105, nat_lit 99, nat_lit 116, nat_lit 95, nat_lit 95]⟩
noncomputable def n125 : Str := ⟨Array.mk [nat_lit 95, nat_lit 95, nat_lit 119, nat_lit 101, nat_lit 97, nat_lit 107, nat_lit 114, nat_lit 101, nat_lit 102, nat_lit 95, nat_lit 95]⟩
noncomputable def n126 : Str := ⟨Array.mk [nat_lit 112, nat_lit 97, nat_lit 115, nat_lit 115, nat_lit 108, nat_lit 105, nat_lit 98, nat_lit 46, nat_lit 104, nat_lit 97, nat_lit 110, nat_lit 100, nat_lit 108, nat_lit 101, nat_lit 114, nat_lit 115, nat_lit 46, nat_lit 109, nat_lit 100, nat_lit 53, nat_lit 95, nat_lit 99, nat_lit 114, nat_lit 121, nat_lit 112, nat_lit 116]⟩
noncomputable def n127 : Str := ⟨Array.mk [nat_lit 98, nat_lit 115, nat_lit 100, nat_lit 105, nat_lit 95, nat_lit 99, nat_lit 114, nat_lit 121, nat_lit 112, nat_lit 116]⟩
noncomputable def n128 : Str := ⟨Array.mk [nat_lit 66, nat_lit 78, nat_lit 85, nat_lit 76, nat_lit 76, nat_lit 95, nat_lit 109, nat_lit 100, nat_lit 53, nat_lit 95, nat_lit 99, nat_lit 114, nat_lit 121, nat_lit 112, nat_lit 116]⟩
noncomputable def n129 : Str := ⟨Array.mk [nat_lit 95, nat_lit 77, nat_lit 68, nat_lit 53, nat_lit 95, nat_lit 77, nat_lit 65, nat_lit 71, nat_lit 73, nat_lit 67]⟩
noncomputable def n130 : Str := ⟨Array.mk [nat_lit 95, nat_lit 65, nat_lit 80, nat_lit 82, nat_lit 95, nat_lit 77, nat_lit 65, nat_lit 71, nat_lit 73, nat_lit 67]⟩
noncomputable def n131 : Str := ⟨Array.mk [nat_lit 99, nat_lit 95, nat_lit 100, nat_lit 105, nat_lit 103, nat_lit 101, nat_lit 115, nat_lit 116, nat_lit 95, nat_lit 111, nat_lit 102, nat_lit 102, nat_lit 115, nat_lit 101, nat_lit 116, nat_lit 115, nat_lit 95, nat_lit 109, nat_lit 100, nat_lit 53, nat_lit 95, nat_lit 99, nat_lit 114, nat_lit 121, nat_lit 112, nat_lit 116]⟩
noncomputable def n132 : Str := ⟨Array.mk [nat_lit 95, nat_lit 116, nat_lit 114, nat_lit 97, nat_lit 110, nat_lit 115, nat_lit 112, nat_lit 111, nat_lit 115, nat_lit 101, nat_lit 95, nat_lit 109, nat_lit 97, nat_lit 112]⟩
noncomputable def n133 : Str := ⟨Array.mk [nat_lit 95, nat_lit 114, nat_lit 97, nat_lit 119, nat_lit 95, nat_lit 109, nat_lit 100, nat_lit 53, nat_lit 95, nat_lit 99, nat_lit 114, nat_lit 121, nat_lit 112, nat_lit 116]⟩
noncomputable def n134 : Str := ⟨Array.mk [nat_lit 112, nat_lit 97, nat_lit 115, nat_lit 115, nat_lit 108, nat_lit 105, nat_lit 98, nat_lit 46, nat_lit 104, nat_lit 97, nat_lit 110, nat_lit 100, nat_lit 108, nat_lit 101, nat_lit 114, nat_lit 115, nat_lit 46, nat_lit 115, nat_lit 104, nat_lit 97, nat_lit 50, nat_lit 95, nat_lit 99, nat_lit 114, nat_lit 121, nat_lit 112, nat_lit 116]⟩
noncomputable def n135 : Str := ⟨Array.mk [nat_lit 109, nat_lit 100, nat_lit 53, nat_lit 95, nat_lit 99, nat_lit 114, nat_lit 121, nat_lit 112, nat_lit 116]⟩
noncomputable def n136 : Str := ⟨Array.mk [nat_lit 66, nat_lit 78, nat_lit 85, nat_lit 76, nat_lit 76, nat_lit 95, nat_lit 115, nat_lit 104, nat_lit 97, nat_lit 50, nat_lit 95, nat_lit 99, nat_lit 114, nat_lit 121, nat_lit 112, nat_lit 116]⟩
noncomputable def n137 : Str := ⟨Array.mk [nat_lit 99, nat_lit 95, nat_lit 100, nat_lit 105, nat_lit 103, nat_lit 101, nat_lit 115, nat_lit 116, nat_lit 95, nat_lit 111, nat_lit 102, nat_lit 102, nat_lit 115, nat_lit 101, nat_lit 116, nat_lit 115, nat_lit 95, nat_lit 115, nat_lit 104, nat_lit 97, nat_lit 50, nat_lit 95, nat_lit 99, nat_lit 114, nat_lit 121, nat_lit 112, nat_lit 116]⟩
noncomputable def n138 : Str := ⟨Array.mk [nat_lit 95, nat_lit 50, nat_lit 53, nat_lit 54, nat_lit 95, nat_lit 116, nat_lit 114, nat_lit 97, nat_lit 110, nat_lit 115, nat_lit 112, nat_lit 111, nat_lit 115, nat_lit 101, nat_lit 95, nat_lit 109, nat_lit 97, nat_lit 112]⟩
noncomputable def n139 : Str := ⟨Array.mk [nat_lit 95, nat_lit 53, nat_lit 49, nat_lit 50, nat_lit 95, nat_lit 116, nat_lit 114, nat_lit 97, nat_lit 110, nat_lit 115, nat_lit 112, nat_lit 111, nat_lit 115, nat_lit 101, nat_lit 95, nat_lit 109, nat_lit 97, nat_lit 112]⟩
noncomputable def n140 : Str := ⟨Array.mk [nat_lit 95, nat_lit 114, nat_lit 97, nat_lit 119, nat_lit 95, nat_lit 115, nat_lit 104, nat_lit 97, nat_lit 50, nat_lit 95, nat_lit 99, nat_lit 114, nat_lit 121, nat_lit 112, nat_lit 116]⟩
noncomputable def n141 : Str := ⟨Array.mk [nat_lit 115, nat_lit 104, nat_lit 97, nat_lit 50, nat_lit 53, nat_lit 54, nat_lit 95, nat_lit 99, nat_lit 114, nat_lit 121, nat_lit 112, nat_lit 116]⟩
noncomputable def n142 : Str := ⟨Array.mk [nat_lit 108, nat_lit 97, nat_lit 119, nat_lit 95, nat_lit 97, nat_lit 106, nat_lit 53, nat_lit 48, nat_lit 51, nat_lit 56, nat_lit 95, nat_lit 48, nat_lit 49]⟩
noncomputable def n143 : Str := ⟨Array.mk [nat_lit 115, nat_lit 104, nat_lit 97, nat_lit 53, nat_lit 49, nat_lit 50, nat_lit 95, nat_lit 99, nat_lit 114, nat_lit 121, nat_lit 112, nat_lit 116]⟩
noncomputable def n144 : Str := ⟨Array.mk [nat_lit 95, nat_lit 108, nat_lit 97, nat_lit 119, nat_lit 95, nat_lit 99, nat_lit 101, nat_lit 108, nat_lit 108]⟩
noncomputable def n145 : Str := ⟨Array.mk [nat_lit 95, nat_lit 108, nat_lit 97, nat_lit 119, nat_lit 95, nat_lit 99, nat_lit 111, nat_lit 110, nat_lit 115, nat_lit 116]⟩
noncomputable def n146 : Str := ⟨Array.mk [nat_lit 95, nat_lit 108, nat_lit 97, nat_lit 119, nat_lit 95, nat_lit 116, nat_lit 111, nat_lit 108, nat_lit 100]⟩
noncomputable def n147 : Str := ⟨Array.mk [nat_lit 115, nat_lit 99, nat_lit 114, nat_lit 105, nat_lit 112, nat_lit 116]⟩
noncomputable def n148 : Str := ⟨Array.mk [nat_lit 111, nat_lit 99, nat_lit 116, nat_lit 101, nat_lit 116, nat_lit 115]⟩
noncomputable def n149 : Str := ⟨Array.mk [nat_lit 119, nat_lit 97, nat_lit 121]⟩
noncomputable def n150 : Str := ⟨Array.mk [nat_lit 95, nat_lit 108, nat_lit 97, nat_lit 119, nat_lit 95, nat_lit 115, nat_lit 101, nat_lit 99, nat_lit 114, nat_lit 101, nat_lit 116]⟩
noncomputable def n151 : Str := ⟨Array.mk [nat_lit 95, nat_lit 108, nat_lit 97, nat_lit 119, nat_lit 95, nat_lit 115, nat_lit 105, nat_lit 103, nat_lit 110, nat_lit 115]⟩
noncomputable def n152 : Str := ⟨Array.mk [nat_lit 95, nat_lit 108, nat_lit 97, nat_lit 119, nat_lit 95, nat_lit 98, nat_lit 108, nat_lit 111, nat_lit 99, nat_lit 107, nat_lit 95, nat_lit 115, nat_lit 97, nat_lit 108, nat_lit 116]⟩
noncomputable def n153 : Str := ⟨Array.mk [nat_lit 95, nat_lit 108, nat_lit 97, nat_lit 119, nat_lit 95, nat_lit 116, nat_lit 101, nat_lit 120, nat_lit 116, nat_lit 95, nat_lit 115, nat_lit 97, nat_lit 108, nat_lit 116]⟩
noncomputable def n154 : Str := ⟨Array.mk [nat_lit 95, nat_lit 108, nat_lit 97, nat_lit 119, nat_lit 95, nat_lit 111, nat_lit 102, nat_lit 95, nat_lit 115, nat_lit 101, nat_lit 99, nat_lit 114, nat_lit 101, nat_lit 116]⟩
noncomputable def n155 : Str := ⟨Array.mk [nat_lit 95, nat_lit 108, nat_lit 97, nat_lit 119, nat_lit 95, nat_lit 98, nat_lit 108, nat_lit 111, nat_lit 99, nat_lit 107, nat_lit 95, nat_lit 100, nat_lit 117, nat_lit 101]⟩
noncomputable def n156 : Str := ⟨Array.mk [nat_lit 95, nat_lit 108, nat_lit 97, nat_lit 119, nat_lit 95, nat_lit 116, nat_lit 101, nat_lit 120, nat_lit 116, nat_lit 95, nat_lit 100, nat_lit 117, nat_lit 101]⟩
noncomputable def n157 : Str := ⟨Array.mk [nat_lit 108, nat_lit 97, nat_lit 119]⟩
noncomputable def n158 : Str := ⟨Array.mk [nat_lit 107, nat_lit 105, nat_lit 110, nat_lit 100]⟩
noncomputable def n159 : Str := ⟨Array.mk [nat_lit 102, nat_lit 97, nat_lit 114]⟩
noncomputable def n160 : Str := ⟨Array.mk [nat_lit 115, nat_lit 105, nat_lit 122, nat_lit 101]⟩
noncomputable def n161 : Str := ⟨Array.mk [nat_lit 109, nat_lit 97, nat_lit 110, nat_lit 121]⟩
noncomputable def n162 : Str := ⟨Array.mk [nat_lit 112, nat_lit 108, nat_lit 97, nat_lit 99, nat_lit 101]⟩
noncomputable def n163 : Str := ⟨Array.mk [nat_lit 103, nat_lit 111, nat_lit 111, nat_lit 100]⟩
noncomputable def n164 : Str := ⟨Array.mk [nat_lit 109, nat_lit 111, nat_lit 115, nat_lit 116]⟩
noncomputable def n165 : Str := ⟨Array.mk [nat_lit 102, nat_lit 97, nat_lit 117, nat_lit 108, nat_lit 116]⟩
noncomputable def n166 : Str := ⟨Array.mk [nat_lit 98, nat_lit 111, nat_lit 117, nat_lit 110, nat_lit 100, nat_lit 115]⟩

noncomputable abbrev KH := @PySem.PyData.keyHash
noncomputable def T22 : Params → BT := PySem.W.Fast.tw3628191734232801947
noncomputable def CF : PySem.Frame := topFrame ⟨0, 0, 0, 0⟩
noncomputable def MB : List Stmt := behindTheImports PySem.Challenge.pw_aj5038_01
noncomputable def ME : Env := PySem.W.Fast.tw16393207145280961055
noncomputable def MC : Code := .body MB ME
noncomputable def EX : List Stmt → Env → Sem Flow := PySem.W.Fast.tw12563942051412417395
noncomputable def TB : String → Option Builtin := PySem.W.Fast.tw14364793385576792824
noncomputable def DEN : Code → Sem Fin := PySem.W.Fast.tw11892475500146522536 TB
noncomputable def BTS : Array UInt8 := Array.mk [46, 47, 48, 49, 50, 51, 52, 53, 54, 55, 56, 57, 65, 66, 67, 68, 69, 70, 71, 72, 73, 74, 75, 76, 77, 78, 79, 80, 81, 82, 83, 84, 85, 86, 87, 88, 89, 90, 97, 98, 99, 100, 101, 102, 103, 104, 105, 106, 107, 108, 109, 110, 111, 112, 113, 114, 115, 116, 117, 118, 119, 120, 121, 122]
noncomputable def GO (n : Nat) (w : World) (s : SharedT) (t : Thread) : Option (SharedT × Thread) := PySem.W.Fast.tw10295753902157049106 TB PySem.Challenge.pw_aj5038_01 w (nat_lit 11) (some (.ref (nat_lit 6))) (nat_lit 1) n s t
noncomputable def RUN (n : Nat) (w : World) (s : SharedT) (t : Thread) : Option (Flow × SharedT × Code × Pos) := PySem.W.Fast.tw10110043849684766642 TB PySem.Challenge.pw_aj5038_01 w (nat_lit 11) (some (.ref (nat_lit 6))) (nat_lit 1) n s t
noncomputable def W (b : Bool) (w : World) : World := w.withFollow "special-get-raises" b
noncomputable def CI (b : Bool) (w : World) : World := w.withFollow "comprehension-iter-twice" b
noncomputable def thOf : Option (SharedT × Thread) → Thread
  | some (_, t) => t
  | none => ⟨.raise .none, .builtin "" {}, ⟨0, 0, 0, 0⟩, []⟩
noncomputable def shOf : Option (SharedT × Thread) → SharedT
  | some (s, _) => s
  | none => ⟨.nil, 0, {}, Array.mk [], {}, 0, {}⟩
noncomputable def kOf : List PySem.Frame → Nat → Result → Sem Fin
  | .ret k _ _ _ _ _ _ :: _, 0 => k
  | _ :: r, n + 1 => kOf r n
  | _, _ => fun _ => .raise .none
noncomputable def gOf : List GenState → Resume → Sem Fin
  | .suspended k _ _ _ _ _ :: _ => k
  | _ :: r => gOf r
  | _ => fun _ => .raise .none
noncomputable def atS : List Stmt → Nat → Stmt
  | [], _ => .Pass ⟨0, 0, 0, 0⟩
  | a :: _, 0 => a
  | _ :: r, n + 1 => atS r n
noncomputable def cel (i : Nat) : Stmt := atS MB i
noncomputable def fA : Stmt → Arguments
  | .FunctionDef _ a _ _ _ _ _ _ _ _ => a
  | _ => ⟨[], [], none, [], [], none, []⟩
noncomputable def fB : Stmt → List Stmt
  | .FunctionDef _ _ b _ _ _ _ _ _ _ => b
  | _ => []
noncomputable def fS : Stmt → Scope
  | .FunctionDef _ _ _ _ _ _ s _ _ _ => s
  | _ => { kind := .function, names := [], isGenerator := false, isCoroutine := false }
noncomputable def cB : Stmt → List Stmt
  | .ClassDef _ _ _ b _ _ _ _ _ _ _ => b
  | _ => []
noncomputable def IB : List Stmt := fB (atS (cB (cel (nat_lit 20))) (nat_lit 6))
noncomputable def gSi : Scope := fS (atS (cB (cel (nat_lit 20))) (nat_lit 6))
noncomputable def gOfS : Stmt → Expr
  | .Assign _ (.Call _ (g :: _) _ _) _ => g
  | _ => .Name (.ofString "") ⟨0, 0, 0, 0⟩
noncomputable def gE : Expr := gOfS (atS IB (nat_lit 5))
noncomputable def gScE : Expr → Scope
  | .GeneratorExp _ _ s _ => s
  | _ => { kind := .function, names := [], isGenerator := false, isCoroutine := false }
noncomputable def gSc : Scope := gScE gE
noncomputable def drS : List Stmt → Nat → List Stmt
  | l, 0 => l
  | [], _ + 1 => []
  | _ :: r, n + 1 => drS r n
noncomputable def taS : List Stmt → Nat → List Stmt
  | _, 0 => []
  | [], _ + 1 => []
  | a :: r, n + 1 => a :: taS r n
noncomputable def grp (i k : Nat) : List Stmt := taS (drS MB i) k
structure LC where
  n0 : Nat
  t0 : Nat
  bi : Nat
  en : Nat
  fr : Nat
  dd : Nat
  tb : Nat
  u1 : Nat
  u2 : Nat
  u3 : Nat
noncomputable def vs : List Nat := [nat_lit 46, nat_lit 47, nat_lit 48, nat_lit 49, nat_lit 50, nat_lit 51, nat_lit 52, nat_lit 53, nat_lit 54, nat_lit 55, nat_lit 56, nat_lit 57, nat_lit 65, nat_lit 66, nat_lit 67, nat_lit 68, nat_lit 69, nat_lit 70, nat_lit 71, nat_lit 72, nat_lit 73, nat_lit 74, nat_lit 75, nat_lit 76, nat_lit 77, nat_lit 78, nat_lit 79, nat_lit 80, nat_lit 81, nat_lit 82, nat_lit 83, nat_lit 84, nat_lit 85, nat_lit 86, nat_lit 87, nat_lit 88, nat_lit 89, nat_lit 90, nat_lit 97, nat_lit 98, nat_lit 99, nat_lit 100, nat_lit 101, nat_lit 102, nat_lit 103, nat_lit 104, nat_lit 105, nat_lit 106, nat_lit 107, nat_lit 108, nat_lit 109, nat_lit 110, nat_lit 111, nat_lit 112, nat_lit 113, nat_lit 114, nat_lit 115, nat_lit 116, nat_lit 117, nat_lit 118, nat_lit 119, nat_lit 120, nat_lit 121, nat_lit 122]
noncomputable def atN : List Nat → Nat → Nat
  | [], _ => nat_lit 0
  | a :: _, 0 => a
  | _ :: r, n + 1 => atN r n
noncomputable def vAt (k : Nat) : Nat := atN vs k
noncomputable def vi (i t : Nat) : Value := .int (.ofNat i) t
noncomputable def fO (ty : String) (l : List Value) : Obj := ⟨.type ty, none, .fields (Array.mk l), Array.mk []⟩
noncomputable def sO (l : List Value) : Obj := ⟨.type "tuple", none, .seq (Array.mk l) (nat_lit 0), Array.mk []⟩
noncomputable def ents (t0 : Nat) : Nat → Array DictEntry
  | 0 => Array.mk []
  | k + 1 => (ents t0 k).push ⟨.ofNat (vAt k), vi (vAt k) (Nat.add t0 (Nat.mul (nat_lit 5) k)), vi k (Nat.add (Nat.add t0 (Nat.mul (nat_lit 5) k)) (nat_lit 1))⟩
noncomputable def lT (c : LC) (T : Params → BT) : Nat → Params → BT
  | 0, P => T P
  | k + 1, P => (fun n t => (((((((((lT c T k P).ins c.bi (fO "bytes_iterator" [.bytes BTS c.tb, vi (Nat.succ k) (nat_lit 0)])).ins c.en (fO "enumerate" [.none, .bool false, .ref c.bi, vi (Nat.succ k) (nat_lit 0), .none, vi (vAt k) t])).ins
      c.fr ⟨.type "frame", none, .dict (Array.mk [⟨KH P n21, .str n21 c.u1, .ref c.en⟩, ⟨KH P n19, .str n19 c.u2, vi k (Nat.succ t)⟩, ⟨KH P n18, .str n18 c.u3, vi (vAt k) t⟩]) (nat_lit 3), Array.mk []⟩).ins
      c.dd ⟨.type "dict", none, .dict (ents c.t0 (Nat.succ k)) (Nat.succ k), Array.mk []⟩).ins
      n (sO [vi k (Nat.succ t), vi (vAt k) t])).ins (Nat.add n (nat_lit 1)) (fO "tuple_iterator" [.none, vi (nat_lit 2) (nat_lit 0)])).ins (Nat.add n (nat_lit 2)) (sO [])).ins (Nat.add n (nat_lit 3)) (fO "StopIteration" [.ref (Nat.add n (nat_lit 2)), .none, .none, .none, .bool false, .none])).ins
      (Nat.add n (nat_lit 4)) (sO [vi (vAt k) t, vi k (Nat.succ t)])) (Nat.add c.n0 (Nat.mul (nat_lit 5) k)) (Nat.add c.t0 (Nat.mul (nat_lit 5) k))
noncomputable def aC : LC := ⟨nat_lit 323, nat_lit 755, nat_lit 313, nat_lit 314, nat_lit 318, nat_lit 320, nat_lit 603, nat_lit 749, nat_lit 757, nat_lit 758⟩
noncomputable def aSt : List Stmt := grp (nat_lit 22) (nat_lit 1)
noncomputable def aS0 (w : World) (os : OsState) : SharedT := ⟨T22 w.params, nat_lit 305, {}, Array.mk [], {}, nat_lit 599, os⟩
noncomputable def aTh0 : Thread := ⟨(EX aSt ME).wrap doneF deadEnd id id, MC, (.mk (nat_lit 270) (nat_lit 0) (nat_lit 271) (nat_lit 21)), [CF]⟩
noncomputable def aO1_305 (P : Params) : Obj := (.mk (.type "dict") .none (.dict (Array.mk []) (nat_lit 0)) (Array.mk []))
noncomputable def aO1_306 (P : Params) : Obj := (.mk (.ref (nat_lit 302)) (.some (nat_lit 305)) .plain (Array.mk []))
noncomputable def aO1_307 (P : Params) : Obj := (.mk (.type "frame") .none (.dict (Array.mk [(.mk (KH P n12) (.str n12 (nat_lit 599)) (.ref (nat_lit 306))), (.mk (KH P n1) (.str n1 (nat_lit 600)) (.bytes BTS (nat_lit 603))), (.mk (KH P n23) (.str n23 (nat_lit 601)) (.bool false))]) (nat_lit 3)) (Array.mk []))
noncomputable def aO1_308 (P : Params) : Obj := (.mk (.type "set") .none (.set (Array.mk [((.ofNat (nat_lit 46)), (.int (.ofNat (nat_lit 46)) (nat_lit 608)))]) (nat_lit 1) (.mk (nat_lit 7) (Array.mk [(nat_lit 6)]) (Array.mk []) (nat_lit 0) (!P.followText "set-order") (nat_lit 0) true)) (Array.mk []))
noncomputable def aO1_309 (P : Params) : Obj := (.mk (.type "bytes_iterator") .none (.fields (Array.mk [(.bytes BTS (nat_lit 603)), (.int (.ofNat (nat_lit 1)) (nat_lit 0))])) (Array.mk []))
noncomputable def aT1 (P : Params) : BT := (BT.ins (BT.ins (BT.ins (BT.ins (BT.ins (T22 P) (nat_lit 305) (aO1_305 P)) (nat_lit 306) (aO1_306 P)) (nat_lit 307) (aO1_307 P)) (nat_lit 308) (aO1_308 P)) (nat_lit 309) (aO1_309 P))
noncomputable def aS1 (w : World) (os : OsState) : SharedT := ⟨aT1 w.params, nat_lit 310, {}, Array.mk [], {}, nat_lit 610, os⟩
noncomputable def aTh1 (k0 k1 k2 k3 k4 : Result → Sem Fin) : Thread := ⟨(DEN (.builtin "set.update.loop" (.mk [(.ref (nat_lit 308)), (.ref (nat_lit 309))] []))), (.builtin "set.update.loop" (.mk [(.ref (nat_lit 308)), (.ref (nat_lit 309))] [])), (.mk (nat_lit 49) (nat_lit 15) (nat_lit 49) (nat_lit 27)), [(.ret k0 .none false [] (.builtin "set.__init__" (.mk [(.ref (nat_lit 308)), (.bytes BTS (nat_lit 603))] [])) (.mk (nat_lit 49) (nat_lit 15) (nat_lit 49) (nat_lit 27)) [(.ref (nat_lit 308)), (.ref (nat_lit 309))]),
    (.ret k1 .none false [(.ref (nat_lit 308)), (.ref (nat_lit 308))] (.builtin "type.__call__" (.mk [(.type "set"), (.bytes BTS (nat_lit 603))] [])) (.mk (nat_lit 49) (nat_lit 15) (nat_lit 49) (nat_lit 27)) [(.builtin "set.__init__"), (.ref (nat_lit 308)), (.bytes BTS (nat_lit 603)), (.builtin "set.__init__"), (.ref (nat_lit 308)), (.bytes BTS (nat_lit 603))]),
    (.ret k2 .none false [] (.func IB (.mk gSi (nat_lit 307) (nat_lit 3) [] n33 (.some (nat_lit 100)) (.ref (nat_lit 99)) (.some (nat_lit 307)) (nat_lit 0))) (.mk (nat_lit 49) (nat_lit 15) (nat_lit 49) (nat_lit 27)) [(.type "set"), (.bytes BTS (nat_lit 603))]),
    (.ret k3 .none false [(.ref (nat_lit 306)), (.ref (nat_lit 306))] (.builtin "type.__call__" (.mk [(.ref (nat_lit 302)), (.str n34 (nat_lit 282))] [])) (.mk (nat_lit 272) (nat_lit 6) (nat_lit 272) (nat_lit 36)) [(.ref (nat_lit 100)), (.ref (nat_lit 306)), (.str n34 (nat_lit 282))]),
    (.ret k4 .none false [] (.body MB ME) (.mk (nat_lit 272) (nat_lit 6) (nat_lit 272) (nat_lit 36)) [(.ref (nat_lit 302)), (.builtin "type.__call__"), (.ref (nat_lit 302)), (.str n34 (nat_lit 282))]), CF]⟩
noncomputable def aO2_308 (P : Params) : Obj := (.mk (.type "set") .none (.set (Array.mk [((.ofNat (nat_lit 48)), (.int (.ofNat (nat_lit 48)) (nat_lit 612))), ((.ofNat (nat_lit 49)), (.int (.ofNat (nat_lit 49)) (nat_lit 614))), ((.ofNat (nat_lit 46)), (.int (.ofNat (nat_lit 46)) (nat_lit 608))), ((.ofNat (nat_lit 47)), (.int (.ofNat (nat_lit 47)) (nat_lit 610)))]) (nat_lit 4) (.mk (nat_lit 7) (Array.mk [(nat_lit 0), (nat_lit 1), (nat_lit 6), (nat_lit 7)]) (Array.mk []) (nat_lit 0) (!P.followText "set-order") (nat_lit 0) true)) (Array.mk []))
noncomputable def aO2_309 (P : Params) : Obj := (.mk (.type "bytes_iterator") .none (.fields (Array.mk [(.bytes BTS (nat_lit 603)), (.int (.ofNat (nat_lit 4)) (nat_lit 0))])) (Array.mk []))
noncomputable def aT2 (P : Params) : BT := (BT.ins (BT.ins (aT1 P) (nat_lit 308) (aO2_308 P)) (nat_lit 309) (aO2_309 P))
noncomputable def aS2 (w : World) (os : OsState) : SharedT := ⟨aT2 w.params, nat_lit 310, {}, Array.mk [], {}, nat_lit 616, os⟩
noncomputable def aO3_308 (P : Params) : Obj := (.mk (.type "set") .none (.set (Array.mk [((.ofNat (nat_lit 46)), (.int (.ofNat (nat_lit 46)) (nat_lit 608))), ((.ofNat (nat_lit 47)), (.int (.ofNat (nat_lit 47)) (nat_lit 610))), ((.ofNat (nat_lit 48)), (.int (.ofNat (nat_lit 48)) (nat_lit 612))), ((.ofNat (nat_lit 49)), (.int (.ofNat (nat_lit 49)) (nat_lit 614))), ((.ofNat (nat_lit 50)), (.int (.ofNat (nat_lit 50)) (nat_lit 616))), ((.ofNat (nat_lit 51)), (.int (.ofNat (nat_lit 51)) (nat_lit 618))), ((.ofNat (nat_lit 52)), (.int (.ofNat (nat_lit 52)) (nat_lit 620)))]) (nat_lit 8) (.mk (nat_lit 31) (Array.mk [(nat_lit 14), (nat_lit 15), (nat_lit 16), (nat_lit 17), (nat_lit 18), (nat_lit 19), (nat_lit 20)]) (Array.mk []) (nat_lit 0) (!P.followText "set-order") (nat_lit 1) true)) (Array.mk []))
noncomputable def aO3_309 (P : Params) : Obj := (.mk (.type "bytes_iterator") .none (.fields (Array.mk [(.bytes BTS (nat_lit 603)), (.int (.ofNat (nat_lit 7)) (nat_lit 0))])) (Array.mk []))
noncomputable def aT3 (P : Params) : BT := (BT.ins (BT.ins (aT2 P) (nat_lit 308) (aO3_308 P)) (nat_lit 309) (aO3_309 P))
noncomputable def aS3 (w : World) (os : OsState) : SharedT := ⟨aT3 w.params, nat_lit 310, {}, Array.mk [], {}, nat_lit 622, os⟩
noncomputable def aO4_308 (P : Params) : Obj := (.mk (.type "set") .none (.set (Array.mk [((.ofNat (nat_lit 46)), (.int (.ofNat (nat_lit 46)) (nat_lit 608))), ((.ofNat (nat_lit 47)), (.int (.ofNat (nat_lit 47)) (nat_lit 610))), ((.ofNat (nat_lit 48)), (.int (.ofNat (nat_lit 48)) (nat_lit 612))), ((.ofNat (nat_lit 49)), (.int (.ofNat (nat_lit 49)) (nat_lit 614))), ((.ofNat (nat_lit 50)), (.int (.ofNat (nat_lit 50)) (nat_lit 616))), ((.ofNat (nat_lit 51)), (.int (.ofNat (nat_lit 51)) (nat_lit 618))), ((.ofNat (nat_lit 52)), (.int (.ofNat (nat_lit 52)) (nat_lit 620))), ((.ofNat (nat_lit 53)), (.int (.ofNat (nat_lit 53)) (nat_lit 622))), ((.ofNat (nat_lit 54)), (.int (.ofNat (nat_lit 54)) (nat_lit 624))), ((.ofNat (nat_lit 55)), (.int (.ofNat (nat_lit 55)) (nat_lit 626)))]) (nat_lit 11) (.mk (nat_lit 31) (Array.mk [(nat_lit 14), (nat_lit 15), (nat_lit 16), (nat_lit 17), (nat_lit 18), (nat_lit 19), (nat_lit 20), (nat_lit 21), (nat_lit 22), (nat_lit 23)]) (Array.mk []) (nat_lit 0) (!P.followText "set-order") (nat_lit 1) true)) (Array.mk []))
noncomputable def aO4_309 (P : Params) : Obj := (.mk (.type "bytes_iterator") .none (.fields (Array.mk [(.bytes BTS (nat_lit 603)), (.int (.ofNat (nat_lit 10)) (nat_lit 0))])) (Array.mk []))
noncomputable def aT4 (P : Params) : BT := (BT.ins (BT.ins (aT3 P) (nat_lit 308) (aO4_308 P)) (nat_lit 309) (aO4_309 P))
noncomputable def aS4 (w : World) (os : OsState) : SharedT := ⟨aT4 w.params, nat_lit 310, {}, Array.mk [], {}, nat_lit 628, os⟩
noncomputable def aO5_308 (P : Params) : Obj := (.mk (.type "set") .none (.set (Array.mk [((.ofNat (nat_lit 65)), (.int (.ofNat (nat_lit 65)) (nat_lit 632))), ((.ofNat (nat_lit 46)), (.int (.ofNat (nat_lit 46)) (nat_lit 608))), ((.ofNat (nat_lit 47)), (.int (.ofNat (nat_lit 47)) (nat_lit 610))), ((.ofNat (nat_lit 48)), (.int (.ofNat (nat_lit 48)) (nat_lit 612))), ((.ofNat (nat_lit 49)), (.int (.ofNat (nat_lit 49)) (nat_lit 614))), ((.ofNat (nat_lit 50)), (.int (.ofNat (nat_lit 50)) (nat_lit 616))), ((.ofNat (nat_lit 51)), (.int (.ofNat (nat_lit 51)) (nat_lit 618))), ((.ofNat (nat_lit 52)), (.int (.ofNat (nat_lit 52)) (nat_lit 620))), ((.ofNat (nat_lit 53)), (.int (.ofNat (nat_lit 53)) (nat_lit 622))), ((.ofNat (nat_lit 54)), (.int (.ofNat (nat_lit 54)) (nat_lit 624))), ((.ofNat (nat_lit 55)), (.int (.ofNat (nat_lit 55)) (nat_lit 626))), ((.ofNat (nat_lit 56)), (.int (.ofNat (nat_lit 56)) (nat_lit 628))), ((.ofNat (nat_lit 57)), (.int (.ofNat (nat_lit 57)) (nat_lit 630)))]) (nat_lit 14) (.mk (nat_lit 31) (Array.mk [(nat_lit 1), (nat_lit 14), (nat_lit 15), (nat_lit 16), (nat_lit 17), (nat_lit 18), (nat_lit 19), (nat_lit 20), (nat_lit 21), (nat_lit 22), (nat_lit 23), (nat_lit 24), (nat_lit 25)]) (Array.mk []) (nat_lit 0) (!P.followText "set-order") (nat_lit 1) true)) (Array.mk []))
noncomputable def aO5_309 (P : Params) : Obj := (.mk (.type "bytes_iterator") .none (.fields (Array.mk [(.bytes BTS (nat_lit 603)), (.int (.ofNat (nat_lit 13)) (nat_lit 0))])) (Array.mk []))
noncomputable def aT5 (P : Params) : BT := (BT.ins (BT.ins (aT4 P) (nat_lit 308) (aO5_308 P)) (nat_lit 309) (aO5_309 P))
noncomputable def aS5 (w : World) (os : OsState) : SharedT := ⟨aT5 w.params, nat_lit 310, {}, Array.mk [], {}, nat_lit 634, os⟩
noncomputable def aO6_308 (P : Params) : Obj := (.mk (.type "set") .none (.set (Array.mk [((.ofNat (nat_lit 65)), (.int (.ofNat (nat_lit 65)) (nat_lit 632))), ((.ofNat (nat_lit 66)), (.int (.ofNat (nat_lit 66)) (nat_lit 634))), ((.ofNat (nat_lit 67)), (.int (.ofNat (nat_lit 67)) (nat_lit 636))), ((.ofNat (nat_lit 68)), (.int (.ofNat (nat_lit 68)) (nat_lit 638))), ((.ofNat (nat_lit 46)), (.int (.ofNat (nat_lit 46)) (nat_lit 608))), ((.ofNat (nat_lit 47)), (.int (.ofNat (nat_lit 47)) (nat_lit 610))), ((.ofNat (nat_lit 48)), (.int (.ofNat (nat_lit 48)) (nat_lit 612))), ((.ofNat (nat_lit 49)), (.int (.ofNat (nat_lit 49)) (nat_lit 614))), ((.ofNat (nat_lit 50)), (.int (.ofNat (nat_lit 50)) (nat_lit 616))), ((.ofNat (nat_lit 51)), (.int (.ofNat (nat_lit 51)) (nat_lit 618))), ((.ofNat (nat_lit 52)), (.int (.ofNat (nat_lit 52)) (nat_lit 620))), ((.ofNat (nat_lit 53)), (.int (.ofNat (nat_lit 53)) (nat_lit 622))), ((.ofNat (nat_lit 54)), (.int (.ofNat (nat_lit 54)) (nat_lit 624))), ((.ofNat (nat_lit 55)), (.int (.ofNat (nat_lit 55)) (nat_lit 626))), ((.ofNat (nat_lit 56)), (.int (.ofNat (nat_lit 56)) (nat_lit 628))), ((.ofNat (nat_lit 57)), (.int (.ofNat (nat_lit 57)) (nat_lit 630)))]) (nat_lit 17) (.mk (nat_lit 31) (Array.mk [(nat_lit 1), (nat_lit 2), (nat_lit 3), (nat_lit 4), (nat_lit 14), (nat_lit 15), (nat_lit 16), (nat_lit 17), (nat_lit 18), (nat_lit 19), (nat_lit 20), (nat_lit 21), (nat_lit 22), (nat_lit 23), (nat_lit 24), (nat_lit 25)]) (Array.mk []) (nat_lit 0) (!P.followText "set-order") (nat_lit 1) true)) (Array.mk []))
noncomputable def aO6_309 (P : Params) : Obj := (.mk (.type "bytes_iterator") .none (.fields (Array.mk [(.bytes BTS (nat_lit 603)), (.int (.ofNat (nat_lit 16)) (nat_lit 0))])) (Array.mk []))
noncomputable def aT6 (P : Params) : BT := (BT.ins (BT.ins (aT5 P) (nat_lit 308) (aO6_308 P)) (nat_lit 309) (aO6_309 P))
noncomputable def aS6 (w : World) (os : OsState) : SharedT := ⟨aT6 w.params, nat_lit 310, {}, Array.mk [], {}, nat_lit 640, os⟩
noncomputable def aO7_308 (P : Params) : Obj := (.mk (.type "set") .none (.set (Array.mk [((.ofNat (nat_lit 46)), (.int (.ofNat (nat_lit 46)) (nat_lit 608))), ((.ofNat (nat_lit 47)), (.int (.ofNat (nat_lit 47)) (nat_lit 610))), ((.ofNat (nat_lit 48)), (.int (.ofNat (nat_lit 48)) (nat_lit 612))), ((.ofNat (nat_lit 49)), (.int (.ofNat (nat_lit 49)) (nat_lit 614))), ((.ofNat (nat_lit 50)), (.int (.ofNat (nat_lit 50)) (nat_lit 616))), ((.ofNat (nat_lit 51)), (.int (.ofNat (nat_lit 51)) (nat_lit 618))), ((.ofNat (nat_lit 52)), (.int (.ofNat (nat_lit 52)) (nat_lit 620))), ((.ofNat (nat_lit 53)), (.int (.ofNat (nat_lit 53)) (nat_lit 622))), ((.ofNat (nat_lit 54)), (.int (.ofNat (nat_lit 54)) (nat_lit 624))), ((.ofNat (nat_lit 55)), (.int (.ofNat (nat_lit 55)) (nat_lit 626))), ((.ofNat (nat_lit 56)), (.int (.ofNat (nat_lit 56)) (nat_lit 628))), ((.ofNat (nat_lit 57)), (.int (.ofNat (nat_lit 57)) (nat_lit 630))), ((.ofNat (nat_lit 65)), (.int (.ofNat (nat_lit 65)) (nat_lit 632))), ((.ofNat (nat_lit 66)), (.int (.ofNat (nat_lit 66)) (nat_lit 634))), ((.ofNat (nat_lit 67)), (.int (.ofNat (nat_lit 67)) (nat_lit 636))), ((.ofNat (nat_lit 68)), (.int (.ofNat (nat_lit 68)) (nat_lit 638))), ((.ofNat (nat_lit 69)), (.int (.ofNat (nat_lit 69)) (nat_lit 640))), ((.ofNat (nat_lit 70)), (.int (.ofNat (nat_lit 70)) (nat_lit 642))), ((.ofNat (nat_lit 71)), (.int (.ofNat (nat_lit 71)) (nat_lit 644)))]) (nat_lit 21) (.mk (nat_lit 127) (Array.mk [(nat_lit 46), (nat_lit 47), (nat_lit 48), (nat_lit 49), (nat_lit 50), (nat_lit 51), (nat_lit 52), (nat_lit 53), (nat_lit 54), (nat_lit 55), (nat_lit 56), (nat_lit 57), (nat_lit 65), (nat_lit 66), (nat_lit 67), (nat_lit 68), (nat_lit 69), (nat_lit 70), (nat_lit 71)]) (Array.mk []) (nat_lit 0) (!P.followText "set-order") (nat_lit 2) true)) (Array.mk []))
noncomputable def aO7_309 (P : Params) : Obj := (.mk (.type "bytes_iterator") .none (.fields (Array.mk [(.bytes BTS (nat_lit 603)), (.int (.ofNat (nat_lit 19)) (nat_lit 0))])) (Array.mk []))
noncomputable def aT7 (P : Params) : BT := (BT.ins (BT.ins (aT6 P) (nat_lit 308) (aO7_308 P)) (nat_lit 309) (aO7_309 P))
noncomputable def aS7 (w : World) (os : OsState) : SharedT := ⟨aT7 w.params, nat_lit 310, {}, Array.mk [], {}, nat_lit 646, os⟩
noncomputable def aO8_308 (P : Params) : Obj := (.mk (.type "set") .none (.set (Array.mk [((.ofNat (nat_lit 46)), (.int (.ofNat (nat_lit 46)) (nat_lit 608))), ((.ofNat (nat_lit 47)), (.int (.ofNat (nat_lit 47)) (nat_lit 610))), ((.ofNat (nat_lit 48)), (.int (.ofNat (nat_lit 48)) (nat_lit 612))), ((.ofNat (nat_lit 49)), (.int (.ofNat (nat_lit 49)) (nat_lit 614))), ((.ofNat (nat_lit 50)), (.int (.ofNat (nat_lit 50)) (nat_lit 616))), ((.ofNat (nat_lit 51)), (.int (.ofNat (nat_lit 51)) (nat_lit 618))), ((.ofNat (nat_lit 52)), (.int (.ofNat (nat_lit 52)) (nat_lit 620))), ((.ofNat (nat_lit 53)), (.int (.ofNat (nat_lit 53)) (nat_lit 622))), ((.ofNat (nat_lit 54)), (.int (.ofNat (nat_lit 54)) (nat_lit 624))), ((.ofNat (nat_lit 55)), (.int (.ofNat (nat_lit 55)) (nat_lit 626))), ((.ofNat (nat_lit 56)), (.int (.ofNat (nat_lit 56)) (nat_lit 628))), ((.ofNat (nat_lit 57)), (.int (.ofNat (nat_lit 57)) (nat_lit 630))), ((.ofNat (nat_lit 65)), (.int (.ofNat (nat_lit 65)) (nat_lit 632))), ((.ofNat (nat_lit 66)), (.int (.ofNat (nat_lit 66)) (nat_lit 634))), ((.ofNat (nat_lit 67)), (.int (.ofNat (nat_lit 67)) (nat_lit 636))), ((.ofNat (nat_lit 68)), (.int (.ofNat (nat_lit 68)) (nat_lit 638))), ((.ofNat (nat_lit 69)), (.int (.ofNat (nat_lit 69)) (nat_lit 640))), ((.ofNat (nat_lit 70)), (.int (.ofNat (nat_lit 70)) (nat_lit 642))), ((.ofNat (nat_lit 71)), (.int (.ofNat (nat_lit 71)) (nat_lit 644))), ((.ofNat (nat_lit 72)), (.int (.ofNat (nat_lit 72)) (nat_lit 646))), ((.ofNat (nat_lit 73)), (.int (.ofNat (nat_lit 73)) (nat_lit 648))), ((.ofNat (nat_lit 74)), (.int (.ofNat (nat_lit 74)) (nat_lit 650)))]) (nat_lit 24) (.mk (nat_lit 127) (Array.mk [(nat_lit 46), (nat_lit 47), (nat_lit 48), (nat_lit 49), (nat_lit 50), (nat_lit 51), (nat_lit 52), (nat_lit 53), (nat_lit 54), (nat_lit 55), (nat_lit 56), (nat_lit 57), (nat_lit 65), (nat_lit 66), (nat_lit 67), (nat_lit 68), (nat_lit 69), (nat_lit 70), (nat_lit 71), (nat_lit 72), (nat_lit 73), (nat_lit 74)]) (Array.mk []) (nat_lit 0) (!P.followText "set-order") (nat_lit 2) true)) (Array.mk []))
noncomputable def aO8_309 (P : Params) : Obj := (.mk (.type "bytes_iterator") .none (.fields (Array.mk [(.bytes BTS (nat_lit 603)), (.int (.ofNat (nat_lit 22)) (nat_lit 0))])) (Array.mk []))
noncomputable def aT8 (P : Params) : BT := (BT.ins (BT.ins (aT7 P) (nat_lit 308) (aO8_308 P)) (nat_lit 309) (aO8_309 P))
noncomputable def aS8 (w : World) (os : OsState) : SharedT := ⟨aT8 w.params, nat_lit 310, {}, Array.mk [], {}, nat_lit 652, os⟩
noncomputable def aO9_308 (P : Params) : Obj := (.mk (.type "set") .none (.set (Array.mk [((.ofNat (nat_lit 46)), (.int (.ofNat (nat_lit 46)) (nat_lit 608))), ((.ofNat (nat_lit 47)), (.int (.ofNat (nat_lit 47)) (nat_lit 610))), ((.ofNat (nat_lit 48)), (.int (.ofNat (nat_lit 48)) (nat_lit 612))), ((.ofNat (nat_lit 49)), (.int (.ofNat (nat_lit 49)) (nat_lit 614))), ((.ofNat (nat_lit 50)), (.int (.ofNat (nat_lit 50)) (nat_lit 616))), ((.ofNat (nat_lit 51)), (.int (.ofNat (nat_lit 51)) (nat_lit 618))), ((.ofNat (nat_lit 52)), (.int (.ofNat (nat_lit 52)) (nat_lit 620))), ((.ofNat (nat_lit 53)), (.int (.ofNat (nat_lit 53)) (nat_lit 622))), ((.ofNat (nat_lit 54)), (.int (.ofNat (nat_lit 54)) (nat_lit 624))), ((.ofNat (nat_lit 55)), (.int (.ofNat (nat_lit 55)) (nat_lit 626))), ((.ofNat (nat_lit 56)), (.int (.ofNat (nat_lit 56)) (nat_lit 628))), ((.ofNat (nat_lit 57)), (.int (.ofNat (nat_lit 57)) (nat_lit 630))), ((.ofNat (nat_lit 65)), (.int (.ofNat (nat_lit 65)) (nat_lit 632))), ((.ofNat (nat_lit 66)), (.int (.ofNat (nat_lit 66)) (nat_lit 634))), ((.ofNat (nat_lit 67)), (.int (.ofNat (nat_lit 67)) (nat_lit 636))), ((.ofNat (nat_lit 68)), (.int (.ofNat (nat_lit 68)) (nat_lit 638))), ((.ofNat (nat_lit 69)), (.int (.ofNat (nat_lit 69)) (nat_lit 640))), ((.ofNat (nat_lit 70)), (.int (.ofNat (nat_lit 70)) (nat_lit 642))), ((.ofNat (nat_lit 71)), (.int (.ofNat (nat_lit 71)) (nat_lit 644))), ((.ofNat (nat_lit 72)), (.int (.ofNat (nat_lit 72)) (nat_lit 646))), ((.ofNat (nat_lit 73)), (.int (.ofNat (nat_lit 73)) (nat_lit 648))), ((.ofNat (nat_lit 74)), (.int (.ofNat (nat_lit 74)) (nat_lit 650))), ((.ofNat (nat_lit 75)), (.int (.ofNat (nat_lit 75)) (nat_lit 652))), ((.ofNat (nat_lit 76)), (.int (.ofNat (nat_lit 76)) (nat_lit 654))), ((.ofNat (nat_lit 77)), (.int (.ofNat (nat_lit 77)) (nat_lit 656)))]) (nat_lit 27) (.mk (nat_lit 127) (Array.mk [(nat_lit 46), (nat_lit 47), (nat_lit 48), (nat_lit 49), (nat_lit 50), (nat_lit 51), (nat_lit 52), (nat_lit 53), (nat_lit 54), (nat_lit 55), (nat_lit 56), (nat_lit 57), (nat_lit 65), (nat_lit 66), (nat_lit 67), (nat_lit 68), (nat_lit 69), (nat_lit 70), (nat_lit 71), (nat_lit 72), (nat_lit 73), (nat_lit 74), (nat_lit 75), (nat_lit 76), (nat_lit 77)]) (Array.mk []) (nat_lit 0) (!P.followText "set-order") (nat_lit 2) true)) (Array.mk []))
noncomputable def aO9_309 (P : Params) : Obj := (.mk (.type "bytes_iterator") .none (.fields (Array.mk [(.bytes BTS (nat_lit 603)), (.int (.ofNat (nat_lit 25)) (nat_lit 0))])) (Array.mk []))
noncomputable def aT9 (P : Params) : BT := (BT.ins (BT.ins (aT8 P) (nat_lit 308) (aO9_308 P)) (nat_lit 309) (aO9_309 P))
noncomputable def aS9 (w : World) (os : OsState) : SharedT := ⟨aT9 w.params, nat_lit 310, {}, Array.mk [], {}, nat_lit 658, os⟩
noncomputable def aO10_308 (P : Params) : Obj := (.mk (.type "set") .none (.set (Array.mk [((.ofNat (nat_lit 46)), (.int (.ofNat (nat_lit 46)) (nat_lit 608))), ((.ofNat (nat_lit 47)), (.int (.ofNat (nat_lit 47)) (nat_lit 610))), ((.ofNat (nat_lit 48)), (.int (.ofNat (nat_lit 48)) (nat_lit 612))), ((.ofNat (nat_lit 49)), (.int (.ofNat (nat_lit 49)) (nat_lit 614))), ((.ofNat (nat_lit 50)), (.int (.ofNat (nat_lit 50)) (nat_lit 616))), ((.ofNat (nat_lit 51)), (.int (.ofNat (nat_lit 51)) (nat_lit 618))), ((.ofNat (nat_lit 52)), (.int (.ofNat (nat_lit 52)) (nat_lit 620))), ((.ofNat (nat_lit 53)), (.int (.ofNat (nat_lit 53)) (nat_lit 622))), ((.ofNat (nat_lit 54)), (.int (.ofNat (nat_lit 54)) (nat_lit 624))), ((.ofNat (nat_lit 55)), (.int (.ofNat (nat_lit 55)) (nat_lit 626))), ((.ofNat (nat_lit 56)), (.int (.ofNat (nat_lit 56)) (nat_lit 628))), ((.ofNat (nat_lit 57)), (.int (.ofNat (nat_lit 57)) (nat_lit 630))), ((.ofNat (nat_lit 65)), (.int (.ofNat (nat_lit 65)) (nat_lit 632))), ((.ofNat (nat_lit 66)), (.int (.ofNat (nat_lit 66)) (nat_lit 634))), ((.ofNat (nat_lit 67)), (.int (.ofNat (nat_lit 67)) (nat_lit 636))), ((.ofNat (nat_lit 68)), (.int (.ofNat (nat_lit 68)) (nat_lit 638))), ((.ofNat (nat_lit 69)), (.int (.ofNat (nat_lit 69)) (nat_lit 640))), ((.ofNat (nat_lit 70)), (.int (.ofNat (nat_lit 70)) (nat_lit 642))), ((.ofNat (nat_lit 71)), (.int (.ofNat (nat_lit 71)) (nat_lit 644))), ((.ofNat (nat_lit 72)), (.int (.ofNat (nat_lit 72)) (nat_lit 646))), ((.ofNat (nat_lit 73)), (.int (.ofNat (nat_lit 73)) (nat_lit 648))), ((.ofNat (nat_lit 74)), (.int (.ofNat (nat_lit 74)) (nat_lit 650))), ((.ofNat (nat_lit 75)), (.int (.ofNat (nat_lit 75)) (nat_lit 652))), ((.ofNat (nat_lit 76)), (.int (.ofNat (nat_lit 76)) (nat_lit 654))), ((.ofNat (nat_lit 77)), (.int (.ofNat (nat_lit 77)) (nat_lit 656))), ((.ofNat (nat_lit 78)), (.int (.ofNat (nat_lit 78)) (nat_lit 658))), ((.ofNat (nat_lit 79)), (.int (.ofNat (nat_lit 79)) (nat_lit 660))), ((.ofNat (nat_lit 80)), (.int (.ofNat (nat_lit 80)) (nat_lit 662)))]) (nat_lit 30) (.mk (nat_lit 127) (Array.mk [(nat_lit 46), (nat_lit 47), (nat_lit 48), (nat_lit 49), (nat_lit 50), (nat_lit 51), (nat_lit 52), (nat_lit 53), (nat_lit 54), (nat_lit 55), (nat_lit 56), (nat_lit 57), (nat_lit 65), (nat_lit 66), (nat_lit 67), (nat_lit 68), (nat_lit 69), (nat_lit 70), (nat_lit 71), (nat_lit 72), (nat_lit 73), (nat_lit 74), (nat_lit 75), (nat_lit 76), (nat_lit 77), (nat_lit 78), (nat_lit 79), (nat_lit 80)]) (Array.mk []) (nat_lit 0) (!P.followText "set-order") (nat_lit 2) true)) (Array.mk []))
noncomputable def aO10_309 (P : Params) : Obj := (.mk (.type "bytes_iterator") .none (.fields (Array.mk [(.bytes BTS (nat_lit 603)), (.int (.ofNat (nat_lit 28)) (nat_lit 0))])) (Array.mk []))
noncomputable def aT10 (P : Params) : BT := (BT.ins (BT.ins (aT9 P) (nat_lit 308) (aO10_308 P)) (nat_lit 309) (aO10_309 P))
noncomputable def aS10 (w : World) (os : OsState) : SharedT := ⟨aT10 w.params, nat_lit 310, {}, Array.mk [], {}, nat_lit 664, os⟩
noncomputable def aO11_308 (P : Params) : Obj := (.mk (.type "set") .none (.set (Array.mk [((.ofNat (nat_lit 46)), (.int (.ofNat (nat_lit 46)) (nat_lit 608))), ((.ofNat (nat_lit 47)), (.int (.ofNat (nat_lit 47)) (nat_lit 610))), ((.ofNat (nat_lit 48)), (.int (.ofNat (nat_lit 48)) (nat_lit 612))), ((.ofNat (nat_lit 49)), (.int (.ofNat (nat_lit 49)) (nat_lit 614))), ((.ofNat (nat_lit 50)), (.int (.ofNat (nat_lit 50)) (nat_lit 616))), ((.ofNat (nat_lit 51)), (.int (.ofNat (nat_lit 51)) (nat_lit 618))), ((.ofNat (nat_lit 52)), (.int (.ofNat (nat_lit 52)) (nat_lit 620))), ((.ofNat (nat_lit 53)), (.int (.ofNat (nat_lit 53)) (nat_lit 622))), ((.ofNat (nat_lit 54)), (.int (.ofNat (nat_lit 54)) (nat_lit 624))), ((.ofNat (nat_lit 55)), (.int (.ofNat (nat_lit 55)) (nat_lit 626))), ((.ofNat (nat_lit 56)), (.int (.ofNat (nat_lit 56)) (nat_lit 628))), ((.ofNat (nat_lit 57)), (.int (.ofNat (nat_lit 57)) (nat_lit 630))), ((.ofNat (nat_lit 65)), (.int (.ofNat (nat_lit 65)) (nat_lit 632))), ((.ofNat (nat_lit 66)), (.int (.ofNat (nat_lit 66)) (nat_lit 634))), ((.ofNat (nat_lit 67)), (.int (.ofNat (nat_lit 67)) (nat_lit 636))), ((.ofNat (nat_lit 68)), (.int (.ofNat (nat_lit 68)) (nat_lit 638))), ((.ofNat (nat_lit 69)), (.int (.ofNat (nat_lit 69)) (nat_lit 640))), ((.ofNat (nat_lit 70)), (.int (.ofNat (nat_lit 70)) (nat_lit 642))), ((.ofNat (nat_lit 71)), (.int (.ofNat (nat_lit 71)) (nat_lit 644))), ((.ofNat (nat_lit 72)), (.int (.ofNat (nat_lit 72)) (nat_lit 646))), ((.ofNat (nat_lit 73)), (.int (.ofNat (nat_lit 73)) (nat_lit 648))), ((.ofNat (nat_lit 74)), (.int (.ofNat (nat_lit 74)) (nat_lit 650))), ((.ofNat (nat_lit 75)), (.int (.ofNat (nat_lit 75)) (nat_lit 652))), ((.ofNat (nat_lit 76)), (.int (.ofNat (nat_lit 76)) (nat_lit 654))), ((.ofNat (nat_lit 77)), (.int (.ofNat (nat_lit 77)) (nat_lit 656))), ((.ofNat (nat_lit 78)), (.int (.ofNat (nat_lit 78)) (nat_lit 658))), ((.ofNat (nat_lit 79)), (.int (.ofNat (nat_lit 79)) (nat_lit 660))), ((.ofNat (nat_lit 80)), (.int (.ofNat (nat_lit 80)) (nat_lit 662))), ((.ofNat (nat_lit 81)), (.int (.ofNat (nat_lit 81)) (nat_lit 664))), ((.ofNat (nat_lit 82)), (.int (.ofNat (nat_lit 82)) (nat_lit 666))), ((.ofNat (nat_lit 83)), (.int (.ofNat (nat_lit 83)) (nat_lit 668)))]) (nat_lit 33) (.mk (nat_lit 127) (Array.mk [(nat_lit 46), (nat_lit 47), (nat_lit 48), (nat_lit 49), (nat_lit 50), (nat_lit 51), (nat_lit 52), (nat_lit 53), (nat_lit 54), (nat_lit 55), (nat_lit 56), (nat_lit 57), (nat_lit 65), (nat_lit 66), (nat_lit 67), (nat_lit 68), (nat_lit 69), (nat_lit 70), (nat_lit 71), (nat_lit 72), (nat_lit 73), (nat_lit 74), (nat_lit 75), (nat_lit 76), (nat_lit 77), (nat_lit 78), (nat_lit 79), (nat_lit 80), (nat_lit 81), (nat_lit 82), (nat_lit 83)]) (Array.mk []) (nat_lit 0) (!P.followText "set-order") (nat_lit 2) true)) (Array.mk []))
noncomputable def aO11_309 (P : Params) : Obj := (.mk (.type "bytes_iterator") .none (.fields (Array.mk [(.bytes BTS (nat_lit 603)), (.int (.ofNat (nat_lit 31)) (nat_lit 0))])) (Array.mk []))
noncomputable def aT11 (P : Params) : BT := (BT.ins (BT.ins (aT10 P) (nat_lit 308) (aO11_308 P)) (nat_lit 309) (aO11_309 P))
noncomputable def aS11 (w : World) (os : OsState) : SharedT := ⟨aT11 w.params, nat_lit 310, {}, Array.mk [], {}, nat_lit 670, os⟩
noncomputable def aO12_308 (P : Params) : Obj := (.mk (.type "set") .none (.set (Array.mk [((.ofNat (nat_lit 46)), (.int (.ofNat (nat_lit 46)) (nat_lit 608))), ((.ofNat (nat_lit 47)), (.int (.ofNat (nat_lit 47)) (nat_lit 610))), ((.ofNat (nat_lit 48)), (.int (.ofNat (nat_lit 48)) (nat_lit 612))), ((.ofNat (nat_lit 49)), (.int (.ofNat (nat_lit 49)) (nat_lit 614))), ((.ofNat (nat_lit 50)), (.int (.ofNat (nat_lit 50)) (nat_lit 616))), ((.ofNat (nat_lit 51)), (.int (.ofNat (nat_lit 51)) (nat_lit 618))), ((.ofNat (nat_lit 52)), (.int (.ofNat (nat_lit 52)) (nat_lit 620))), ((.ofNat (nat_lit 53)), (.int (.ofNat (nat_lit 53)) (nat_lit 622))), ((.ofNat (nat_lit 54)), (.int (.ofNat (nat_lit 54)) (nat_lit 624))), ((.ofNat (nat_lit 55)), (.int (.ofNat (nat_lit 55)) (nat_lit 626))), ((.ofNat (nat_lit 56)), (.int (.ofNat (nat_lit 56)) (nat_lit 628))), ((.ofNat (nat_lit 57)), (.int (.ofNat (nat_lit 57)) (nat_lit 630))), ((.ofNat (nat_lit 65)), (.int (.ofNat (nat_lit 65)) (nat_lit 632))), ((.ofNat (nat_lit 66)), (.int (.ofNat (nat_lit 66)) (nat_lit 634))), ((.ofNat (nat_lit 67)), (.int (.ofNat (nat_lit 67)) (nat_lit 636))), ((.ofNat (nat_lit 68)), (.int (.ofNat (nat_lit 68)) (nat_lit 638))), ((.ofNat (nat_lit 69)), (.int (.ofNat (nat_lit 69)) (nat_lit 640))), ((.ofNat (nat_lit 70)), (.int (.ofNat (nat_lit 70)) (nat_lit 642))), ((.ofNat (nat_lit 71)), (.int (.ofNat (nat_lit 71)) (nat_lit 644))), ((.ofNat (nat_lit 72)), (.int (.ofNat (nat_lit 72)) (nat_lit 646))), ((.ofNat (nat_lit 73)), (.int (.ofNat (nat_lit 73)) (nat_lit 648))), ((.ofNat (nat_lit 74)), (.int (.ofNat (nat_lit 74)) (nat_lit 650))), ((.ofNat (nat_lit 75)), (.int (.ofNat (nat_lit 75)) (nat_lit 652))), ((.ofNat (nat_lit 76)), (.int (.ofNat (nat_lit 76)) (nat_lit 654))), ((.ofNat (nat_lit 77)), (.int (.ofNat (nat_lit 77)) (nat_lit 656))), ((.ofNat (nat_lit 78)), (.int (.ofNat (nat_lit 78)) (nat_lit 658))), ((.ofNat (nat_lit 79)), (.int (.ofNat (nat_lit 79)) (nat_lit 660))), ((.ofNat (nat_lit 80)), (.int (.ofNat (nat_lit 80)) (nat_lit 662))), ((.ofNat (nat_lit 81)), (.int (.ofNat (nat_lit 81)) (nat_lit 664))), ((.ofNat (nat_lit 82)), (.int (.ofNat (nat_lit 82)) (nat_lit 666))), ((.ofNat (nat_lit 83)), (.int (.ofNat (nat_lit 83)) (nat_lit 668))), ((.ofNat (nat_lit 84)), (.int (.ofNat (nat_lit 84)) (nat_lit 670))), ((.ofNat (nat_lit 85)), (.int (.ofNat (nat_lit 85)) (nat_lit 672))), ((.ofNat (nat_lit 86)), (.int (.ofNat (nat_lit 86)) (nat_lit 674)))]) (nat_lit 36) (.mk (nat_lit 127) (Array.mk [(nat_lit 46), (nat_lit 47), (nat_lit 48), (nat_lit 49), (nat_lit 50), (nat_lit 51), (nat_lit 52), (nat_lit 53), (nat_lit 54), (nat_lit 55), (nat_lit 56), (nat_lit 57), (nat_lit 65), (nat_lit 66), (nat_lit 67), (nat_lit 68), (nat_lit 69), (nat_lit 70), (nat_lit 71), (nat_lit 72), (nat_lit 73), (nat_lit 74), (nat_lit 75), (nat_lit 76), (nat_lit 77), (nat_lit 78), (nat_lit 79), (nat_lit 80), (nat_lit 81), (nat_lit 82), (nat_lit 83), (nat_lit 84), (nat_lit 85), (nat_lit 86)]) (Array.mk []) (nat_lit 0) (!P.followText "set-order") (nat_lit 2) true)) (Array.mk []))
noncomputable def aO12_309 (P : Params) : Obj := (.mk (.type "bytes_iterator") .none (.fields (Array.mk [(.bytes BTS (nat_lit 603)), (.int (.ofNat (nat_lit 34)) (nat_lit 0))])) (Array.mk []))
noncomputable def aT12 (P : Params) : BT := (BT.ins (BT.ins (aT11 P) (nat_lit 308) (aO12_308 P)) (nat_lit 309) (aO12_309 P))
noncomputable def aS12 (w : World) (os : OsState) : SharedT := ⟨aT12 w.params, nat_lit 310, {}, Array.mk [], {}, nat_lit 676, os⟩
noncomputable def aO13_308 (P : Params) : Obj := (.mk (.type "set") .none (.set (Array.mk [((.ofNat (nat_lit 46)), (.int (.ofNat (nat_lit 46)) (nat_lit 608))), ((.ofNat (nat_lit 47)), (.int (.ofNat (nat_lit 47)) (nat_lit 610))), ((.ofNat (nat_lit 48)), (.int (.ofNat (nat_lit 48)) (nat_lit 612))), ((.ofNat (nat_lit 49)), (.int (.ofNat (nat_lit 49)) (nat_lit 614))), ((.ofNat (nat_lit 50)), (.int (.ofNat (nat_lit 50)) (nat_lit 616))), ((.ofNat (nat_lit 51)), (.int (.ofNat (nat_lit 51)) (nat_lit 618))), ((.ofNat (nat_lit 52)), (.int (.ofNat (nat_lit 52)) (nat_lit 620))), ((.ofNat (nat_lit 53)), (.int (.ofNat (nat_lit 53)) (nat_lit 622))), ((.ofNat (nat_lit 54)), (.int (.ofNat (nat_lit 54)) (nat_lit 624))), ((.ofNat (nat_lit 55)), (.int (.ofNat (nat_lit 55)) (nat_lit 626))), ((.ofNat (nat_lit 56)), (.int (.ofNat (nat_lit 56)) (nat_lit 628))), ((.ofNat (nat_lit 57)), (.int (.ofNat (nat_lit 57)) (nat_lit 630))), ((.ofNat (nat_lit 65)), (.int (.ofNat (nat_lit 65)) (nat_lit 632))), ((.ofNat (nat_lit 66)), (.int (.ofNat (nat_lit 66)) (nat_lit 634))), ((.ofNat (nat_lit 67)), (.int (.ofNat (nat_lit 67)) (nat_lit 636))), ((.ofNat (nat_lit 68)), (.int (.ofNat (nat_lit 68)) (nat_lit 638))), ((.ofNat (nat_lit 69)), (.int (.ofNat (nat_lit 69)) (nat_lit 640))), ((.ofNat (nat_lit 70)), (.int (.ofNat (nat_lit 70)) (nat_lit 642))), ((.ofNat (nat_lit 71)), (.int (.ofNat (nat_lit 71)) (nat_lit 644))), ((.ofNat (nat_lit 72)), (.int (.ofNat (nat_lit 72)) (nat_lit 646))), ((.ofNat (nat_lit 73)), (.int (.ofNat (nat_lit 73)) (nat_lit 648))), ((.ofNat (nat_lit 74)), (.int (.ofNat (nat_lit 74)) (nat_lit 650))), ((.ofNat (nat_lit 75)), (.int (.ofNat (nat_lit 75)) (nat_lit 652))), ((.ofNat (nat_lit 76)), (.int (.ofNat (nat_lit 76)) (nat_lit 654))), ((.ofNat (nat_lit 77)), (.int (.ofNat (nat_lit 77)) (nat_lit 656))), ((.ofNat (nat_lit 78)), (.int (.ofNat (nat_lit 78)) (nat_lit 658))), ((.ofNat (nat_lit 79)), (.int (.ofNat (nat_lit 79)) (nat_lit 660))), ((.ofNat (nat_lit 80)), (.int (.ofNat (nat_lit 80)) (nat_lit 662))), ((.ofNat (nat_lit 81)), (.int (.ofNat (nat_lit 81)) (nat_lit 664))), ((.ofNat (nat_lit 82)), (.int (.ofNat (nat_lit 82)) (nat_lit 666))), ((.ofNat (nat_lit 83)), (.int (.ofNat (nat_lit 83)) (nat_lit 668))), ((.ofNat (nat_lit 84)), (.int (.ofNat (nat_lit 84)) (nat_lit 670))), ((.ofNat (nat_lit 85)), (.int (.ofNat (nat_lit 85)) (nat_lit 672))), ((.ofNat (nat_lit 86)), (.int (.ofNat (nat_lit 86)) (nat_lit 674))), ((.ofNat (nat_lit 87)), (.int (.ofNat (nat_lit 87)) (nat_lit 676))), ((.ofNat (nat_lit 88)), (.int (.ofNat (nat_lit 88)) (nat_lit 678))), ((.ofNat (nat_lit 89)), (.int (.ofNat (nat_lit 89)) (nat_lit 680)))]) (nat_lit 39) (.mk (nat_lit 127) (Array.mk [(nat_lit 46), (nat_lit 47), (nat_lit 48), (nat_lit 49), (nat_lit 50), (nat_lit 51), (nat_lit 52), (nat_lit 53), (nat_lit 54), (nat_lit 55), (nat_lit 56), (nat_lit 57), (nat_lit 65), (nat_lit 66), (nat_lit 67), (nat_lit 68), (nat_lit 69), (nat_lit 70), (nat_lit 71), (nat_lit 72), (nat_lit 73), (nat_lit 74), (nat_lit 75), (nat_lit 76), (nat_lit 77), (nat_lit 78), (nat_lit 79), (nat_lit 80), (nat_lit 81), (nat_lit 82), (nat_lit 83), (nat_lit 84), (nat_lit 85), (nat_lit 86), (nat_lit 87), (nat_lit 88), (nat_lit 89)]) (Array.mk []) (nat_lit 0) (!P.followText "set-order") (nat_lit 2) true)) (Array.mk []))
noncomputable def aO13_309 (P : Params) : Obj := (.mk (.type "bytes_iterator") .none (.fields (Array.mk [(.bytes BTS (nat_lit 603)), (.int (.ofNat (nat_lit 37)) (nat_lit 0))])) (Array.mk []))
noncomputable def aT13 (P : Params) : BT := (BT.ins (BT.ins (aT12 P) (nat_lit 308) (aO13_308 P)) (nat_lit 309) (aO13_309 P))
noncomputable def aS13 (w : World) (os : OsState) : SharedT := ⟨aT13 w.params, nat_lit 310, {}, Array.mk [], {}, nat_lit 682, os⟩
noncomputable def aO14_308 (P : Params) : Obj := (.mk (.type "set") .none (.set (Array.mk [((.ofNat (nat_lit 46)), (.int (.ofNat (nat_lit 46)) (nat_lit 608))), ((.ofNat (nat_lit 47)), (.int (.ofNat (nat_lit 47)) (nat_lit 610))), ((.ofNat (nat_lit 48)), (.int (.ofNat (nat_lit 48)) (nat_lit 612))), ((.ofNat (nat_lit 49)), (.int (.ofNat (nat_lit 49)) (nat_lit 614))), ((.ofNat (nat_lit 50)), (.int (.ofNat (nat_lit 50)) (nat_lit 616))), ((.ofNat (nat_lit 51)), (.int (.ofNat (nat_lit 51)) (nat_lit 618))), ((.ofNat (nat_lit 52)), (.int (.ofNat (nat_lit 52)) (nat_lit 620))), ((.ofNat (nat_lit 53)), (.int (.ofNat (nat_lit 53)) (nat_lit 622))), ((.ofNat (nat_lit 54)), (.int (.ofNat (nat_lit 54)) (nat_lit 624))), ((.ofNat (nat_lit 55)), (.int (.ofNat (nat_lit 55)) (nat_lit 626))), ((.ofNat (nat_lit 56)), (.int (.ofNat (nat_lit 56)) (nat_lit 628))), ((.ofNat (nat_lit 57)), (.int (.ofNat (nat_lit 57)) (nat_lit 630))), ((.ofNat (nat_lit 65)), (.int (.ofNat (nat_lit 65)) (nat_lit 632))), ((.ofNat (nat_lit 66)), (.int (.ofNat (nat_lit 66)) (nat_lit 634))), ((.ofNat (nat_lit 67)), (.int (.ofNat (nat_lit 67)) (nat_lit 636))), ((.ofNat (nat_lit 68)), (.int (.ofNat (nat_lit 68)) (nat_lit 638))), ((.ofNat (nat_lit 69)), (.int (.ofNat (nat_lit 69)) (nat_lit 640))), ((.ofNat (nat_lit 70)), (.int (.ofNat (nat_lit 70)) (nat_lit 642))), ((.ofNat (nat_lit 71)), (.int (.ofNat (nat_lit 71)) (nat_lit 644))), ((.ofNat (nat_lit 72)), (.int (.ofNat (nat_lit 72)) (nat_lit 646))), ((.ofNat (nat_lit 73)), (.int (.ofNat (nat_lit 73)) (nat_lit 648))), ((.ofNat (nat_lit 74)), (.int (.ofNat (nat_lit 74)) (nat_lit 650))), ((.ofNat (nat_lit 75)), (.int (.ofNat (nat_lit 75)) (nat_lit 652))), ((.ofNat (nat_lit 76)), (.int (.ofNat (nat_lit 76)) (nat_lit 654))), ((.ofNat (nat_lit 77)), (.int (.ofNat (nat_lit 77)) (nat_lit 656))), ((.ofNat (nat_lit 78)), (.int (.ofNat (nat_lit 78)) (nat_lit 658))), ((.ofNat (nat_lit 79)), (.int (.ofNat (nat_lit 79)) (nat_lit 660))), ((.ofNat (nat_lit 80)), (.int (.ofNat (nat_lit 80)) (nat_lit 662))), ((.ofNat (nat_lit 81)), (.int (.ofNat (nat_lit 81)) (nat_lit 664))), ((.ofNat (nat_lit 82)), (.int (.ofNat (nat_lit 82)) (nat_lit 666))), ((.ofNat (nat_lit 83)), (.int (.ofNat (nat_lit 83)) (nat_lit 668))), ((.ofNat (nat_lit 84)), (.int (.ofNat (nat_lit 84)) (nat_lit 670))), ((.ofNat (nat_lit 85)), (.int (.ofNat (nat_lit 85)) (nat_lit 672))), ((.ofNat (nat_lit 86)), (.int (.ofNat (nat_lit 86)) (nat_lit 674))), ((.ofNat (nat_lit 87)), (.int (.ofNat (nat_lit 87)) (nat_lit 676))), ((.ofNat (nat_lit 88)), (.int (.ofNat (nat_lit 88)) (nat_lit 678))), ((.ofNat (nat_lit 89)), (.int (.ofNat (nat_lit 89)) (nat_lit 680))), ((.ofNat (nat_lit 90)), (.int (.ofNat (nat_lit 90)) (nat_lit 682))), ((.ofNat (nat_lit 97)), (.int (.ofNat (nat_lit 97)) (nat_lit 684))), ((.ofNat (nat_lit 98)), (.int (.ofNat (nat_lit 98)) (nat_lit 686)))]) (nat_lit 42) (.mk (nat_lit 127) (Array.mk [(nat_lit 46), (nat_lit 47), (nat_lit 48), (nat_lit 49), (nat_lit 50), (nat_lit 51), (nat_lit 52), (nat_lit 53), (nat_lit 54), (nat_lit 55), (nat_lit 56), (nat_lit 57), (nat_lit 65), (nat_lit 66), (nat_lit 67), (nat_lit 68), (nat_lit 69), (nat_lit 70), (nat_lit 71), (nat_lit 72), (nat_lit 73), (nat_lit 74), (nat_lit 75), (nat_lit 76), (nat_lit 77), (nat_lit 78), (nat_lit 79), (nat_lit 80), (nat_lit 81), (nat_lit 82), (nat_lit 83), (nat_lit 84), (nat_lit 85), (nat_lit 86), (nat_lit 87), (nat_lit 88), (nat_lit 89), (nat_lit 90), (nat_lit 97), (nat_lit 98)]) (Array.mk []) (nat_lit 0) (!P.followText "set-order") (nat_lit 2) true)) (Array.mk []))
noncomputable def aO14_309 (P : Params) : Obj := (.mk (.type "bytes_iterator") .none (.fields (Array.mk [(.bytes BTS (nat_lit 603)), (.int (.ofNat (nat_lit 40)) (nat_lit 0))])) (Array.mk []))
noncomputable def aT14 (P : Params) : BT := (BT.ins (BT.ins (aT13 P) (nat_lit 308) (aO14_308 P)) (nat_lit 309) (aO14_309 P))
noncomputable def aS14 (w : World) (os : OsState) : SharedT := ⟨aT14 w.params, nat_lit 310, {}, Array.mk [], {}, nat_lit 688, os⟩
noncomputable def aO15_308 (P : Params) : Obj := (.mk (.type "set") .none (.set (Array.mk [((.ofNat (nat_lit 46)), (.int (.ofNat (nat_lit 46)) (nat_lit 608))), ((.ofNat (nat_lit 47)), (.int (.ofNat (nat_lit 47)) (nat_lit 610))), ((.ofNat (nat_lit 48)), (.int (.ofNat (nat_lit 48)) (nat_lit 612))), ((.ofNat (nat_lit 49)), (.int (.ofNat (nat_lit 49)) (nat_lit 614))), ((.ofNat (nat_lit 50)), (.int (.ofNat (nat_lit 50)) (nat_lit 616))), ((.ofNat (nat_lit 51)), (.int (.ofNat (nat_lit 51)) (nat_lit 618))), ((.ofNat (nat_lit 52)), (.int (.ofNat (nat_lit 52)) (nat_lit 620))), ((.ofNat (nat_lit 53)), (.int (.ofNat (nat_lit 53)) (nat_lit 622))), ((.ofNat (nat_lit 54)), (.int (.ofNat (nat_lit 54)) (nat_lit 624))), ((.ofNat (nat_lit 55)), (.int (.ofNat (nat_lit 55)) (nat_lit 626))), ((.ofNat (nat_lit 56)), (.int (.ofNat (nat_lit 56)) (nat_lit 628))), ((.ofNat (nat_lit 57)), (.int (.ofNat (nat_lit 57)) (nat_lit 630))), ((.ofNat (nat_lit 65)), (.int (.ofNat (nat_lit 65)) (nat_lit 632))), ((.ofNat (nat_lit 66)), (.int (.ofNat (nat_lit 66)) (nat_lit 634))), ((.ofNat (nat_lit 67)), (.int (.ofNat (nat_lit 67)) (nat_lit 636))), ((.ofNat (nat_lit 68)), (.int (.ofNat (nat_lit 68)) (nat_lit 638))), ((.ofNat (nat_lit 69)), (.int (.ofNat (nat_lit 69)) (nat_lit 640))), ((.ofNat (nat_lit 70)), (.int (.ofNat (nat_lit 70)) (nat_lit 642))), ((.ofNat (nat_lit 71)), (.int (.ofNat (nat_lit 71)) (nat_lit 644))), ((.ofNat (nat_lit 72)), (.int (.ofNat (nat_lit 72)) (nat_lit 646))), ((.ofNat (nat_lit 73)), (.int (.ofNat (nat_lit 73)) (nat_lit 648))), ((.ofNat (nat_lit 74)), (.int (.ofNat (nat_lit 74)) (nat_lit 650))), ((.ofNat (nat_lit 75)), (.int (.ofNat (nat_lit 75)) (nat_lit 652))), ((.ofNat (nat_lit 76)), (.int (.ofNat (nat_lit 76)) (nat_lit 654))), ((.ofNat (nat_lit 77)), (.int (.ofNat (nat_lit 77)) (nat_lit 656))), ((.ofNat (nat_lit 78)), (.int (.ofNat (nat_lit 78)) (nat_lit 658))), ((.ofNat (nat_lit 79)), (.int (.ofNat (nat_lit 79)) (nat_lit 660))), ((.ofNat (nat_lit 80)), (.int (.ofNat (nat_lit 80)) (nat_lit 662))), ((.ofNat (nat_lit 81)), (.int (.ofNat (nat_lit 81)) (nat_lit 664))), ((.ofNat (nat_lit 82)), (.int (.ofNat (nat_lit 82)) (nat_lit 666))), ((.ofNat (nat_lit 83)), (.int (.ofNat (nat_lit 83)) (nat_lit 668))), ((.ofNat (nat_lit 84)), (.int (.ofNat (nat_lit 84)) (nat_lit 670))), ((.ofNat (nat_lit 85)), (.int (.ofNat (nat_lit 85)) (nat_lit 672))), ((.ofNat (nat_lit 86)), (.int (.ofNat (nat_lit 86)) (nat_lit 674))), ((.ofNat (nat_lit 87)), (.int (.ofNat (nat_lit 87)) (nat_lit 676))), ((.ofNat (nat_lit 88)), (.int (.ofNat (nat_lit 88)) (nat_lit 678))), ((.ofNat (nat_lit 89)), (.int (.ofNat (nat_lit 89)) (nat_lit 680))), ((.ofNat (nat_lit 90)), (.int (.ofNat (nat_lit 90)) (nat_lit 682))), ((.ofNat (nat_lit 97)), (.int (.ofNat (nat_lit 97)) (nat_lit 684))), ((.ofNat (nat_lit 98)), (.int (.ofNat (nat_lit 98)) (nat_lit 686))), ((.ofNat (nat_lit 99)), (.int (.ofNat (nat_lit 99)) (nat_lit 688))), ((.ofNat (nat_lit 100)), (.int (.ofNat (nat_lit 100)) (nat_lit 690))), ((.ofNat (nat_lit 101)), (.int (.ofNat (nat_lit 101)) (nat_lit 692)))]) (nat_lit 45) (.mk (nat_lit 127) (Array.mk [(nat_lit 46), (nat_lit 47), (nat_lit 48), (nat_lit 49), (nat_lit 50), (nat_lit 51), (nat_lit 52), (nat_lit 53), (nat_lit 54), (nat_lit 55), (nat_lit 56), (nat_lit 57), (nat_lit 65), (nat_lit 66), (nat_lit 67), (nat_lit 68), (nat_lit 69), (nat_lit 70), (nat_lit 71), (nat_lit 72), (nat_lit 73), (nat_lit 74), (nat_lit 75), (nat_lit 76), (nat_lit 77), (nat_lit 78), (nat_lit 79), (nat_lit 80), (nat_lit 81), (nat_lit 82), (nat_lit 83), (nat_lit 84), (nat_lit 85), (nat_lit 86), (nat_lit 87), (nat_lit 88), (nat_lit 89), (nat_lit 90), (nat_lit 97), (nat_lit 98), (nat_lit 99), (nat_lit 100), (nat_lit 101)]) (Array.mk []) (nat_lit 0) (!P.followText "set-order") (nat_lit 2) true)) (Array.mk []))
noncomputable def aO15_309 (P : Params) : Obj := (.mk (.type "bytes_iterator") .none (.fields (Array.mk [(.bytes BTS (nat_lit 603)), (.int (.ofNat (nat_lit 43)) (nat_lit 0))])) (Array.mk []))
noncomputable def aT15 (P : Params) : BT := (BT.ins (BT.ins (aT14 P) (nat_lit 308) (aO15_308 P)) (nat_lit 309) (aO15_309 P))
noncomputable def aS15 (w : World) (os : OsState) : SharedT := ⟨aT15 w.params, nat_lit 310, {}, Array.mk [], {}, nat_lit 694, os⟩
noncomputable def aO16_308 (P : Params) : Obj := (.mk (.type "set") .none (.set (Array.mk [((.ofNat (nat_lit 46)), (.int (.ofNat (nat_lit 46)) (nat_lit 608))), ((.ofNat (nat_lit 47)), (.int (.ofNat (nat_lit 47)) (nat_lit 610))), ((.ofNat (nat_lit 48)), (.int (.ofNat (nat_lit 48)) (nat_lit 612))), ((.ofNat (nat_lit 49)), (.int (.ofNat (nat_lit 49)) (nat_lit 614))), ((.ofNat (nat_lit 50)), (.int (.ofNat (nat_lit 50)) (nat_lit 616))), ((.ofNat (nat_lit 51)), (.int (.ofNat (nat_lit 51)) (nat_lit 618))), ((.ofNat (nat_lit 52)), (.int (.ofNat (nat_lit 52)) (nat_lit 620))), ((.ofNat (nat_lit 53)), (.int (.ofNat (nat_lit 53)) (nat_lit 622))), ((.ofNat (nat_lit 54)), (.int (.ofNat (nat_lit 54)) (nat_lit 624))), ((.ofNat (nat_lit 55)), (.int (.ofNat (nat_lit 55)) (nat_lit 626))), ((.ofNat (nat_lit 56)), (.int (.ofNat (nat_lit 56)) (nat_lit 628))), ((.ofNat (nat_lit 57)), (.int (.ofNat (nat_lit 57)) (nat_lit 630))), ((.ofNat (nat_lit 65)), (.int (.ofNat (nat_lit 65)) (nat_lit 632))), ((.ofNat (nat_lit 66)), (.int (.ofNat (nat_lit 66)) (nat_lit 634))), ((.ofNat (nat_lit 67)), (.int (.ofNat (nat_lit 67)) (nat_lit 636))), ((.ofNat (nat_lit 68)), (.int (.ofNat (nat_lit 68)) (nat_lit 638))), ((.ofNat (nat_lit 69)), (.int (.ofNat (nat_lit 69)) (nat_lit 640))), ((.ofNat (nat_lit 70)), (.int (.ofNat (nat_lit 70)) (nat_lit 642))), ((.ofNat (nat_lit 71)), (.int (.ofNat (nat_lit 71)) (nat_lit 644))), ((.ofNat (nat_lit 72)), (.int (.ofNat (nat_lit 72)) (nat_lit 646))), ((.ofNat (nat_lit 73)), (.int (.ofNat (nat_lit 73)) (nat_lit 648))), ((.ofNat (nat_lit 74)), (.int (.ofNat (nat_lit 74)) (nat_lit 650))), ((.ofNat (nat_lit 75)), (.int (.ofNat (nat_lit 75)) (nat_lit 652))), ((.ofNat (nat_lit 76)), (.int (.ofNat (nat_lit 76)) (nat_lit 654))), ((.ofNat (nat_lit 77)), (.int (.ofNat (nat_lit 77)) (nat_lit 656))), ((.ofNat (nat_lit 78)), (.int (.ofNat (nat_lit 78)) (nat_lit 658))), ((.ofNat (nat_lit 79)), (.int (.ofNat (nat_lit 79)) (nat_lit 660))), ((.ofNat (nat_lit 80)), (.int (.ofNat (nat_lit 80)) (nat_lit 662))), ((.ofNat (nat_lit 81)), (.int (.ofNat (nat_lit 81)) (nat_lit 664))), ((.ofNat (nat_lit 82)), (.int (.ofNat (nat_lit 82)) (nat_lit 666))), ((.ofNat (nat_lit 83)), (.int (.ofNat (nat_lit 83)) (nat_lit 668))), ((.ofNat (nat_lit 84)), (.int (.ofNat (nat_lit 84)) (nat_lit 670))), ((.ofNat (nat_lit 85)), (.int (.ofNat (nat_lit 85)) (nat_lit 672))), ((.ofNat (nat_lit 86)), (.int (.ofNat (nat_lit 86)) (nat_lit 674))), ((.ofNat (nat_lit 87)), (.int (.ofNat (nat_lit 87)) (nat_lit 676))), ((.ofNat (nat_lit 88)), (.int (.ofNat (nat_lit 88)) (nat_lit 678))), ((.ofNat (nat_lit 89)), (.int (.ofNat (nat_lit 89)) (nat_lit 680))), ((.ofNat (nat_lit 90)), (.int (.ofNat (nat_lit 90)) (nat_lit 682))), ((.ofNat (nat_lit 97)), (.int (.ofNat (nat_lit 97)) (nat_lit 684))), ((.ofNat (nat_lit 98)), (.int (.ofNat (nat_lit 98)) (nat_lit 686))), ((.ofNat (nat_lit 99)), (.int (.ofNat (nat_lit 99)) (nat_lit 688))), ((.ofNat (nat_lit 100)), (.int (.ofNat (nat_lit 100)) (nat_lit 690))), ((.ofNat (nat_lit 101)), (.int (.ofNat (nat_lit 101)) (nat_lit 692))), ((.ofNat (nat_lit 102)), (.int (.ofNat (nat_lit 102)) (nat_lit 694))), ((.ofNat (nat_lit 103)), (.int (.ofNat (nat_lit 103)) (nat_lit 696))), ((.ofNat (nat_lit 104)), (.int (.ofNat (nat_lit 104)) (nat_lit 698)))]) (nat_lit 48) (.mk (nat_lit 127) (Array.mk [(nat_lit 46), (nat_lit 47), (nat_lit 48), (nat_lit 49), (nat_lit 50), (nat_lit 51), (nat_lit 52), (nat_lit 53), (nat_lit 54), (nat_lit 55), (nat_lit 56), (nat_lit 57), (nat_lit 65), (nat_lit 66), (nat_lit 67), (nat_lit 68), (nat_lit 69), (nat_lit 70), (nat_lit 71), (nat_lit 72), (nat_lit 73), (nat_lit 74), (nat_lit 75), (nat_lit 76), (nat_lit 77), (nat_lit 78), (nat_lit 79), (nat_lit 80), (nat_lit 81), (nat_lit 82), (nat_lit 83), (nat_lit 84), (nat_lit 85), (nat_lit 86), (nat_lit 87), (nat_lit 88), (nat_lit 89), (nat_lit 90), (nat_lit 97), (nat_lit 98), (nat_lit 99), (nat_lit 100), (nat_lit 101), (nat_lit 102), (nat_lit 103), (nat_lit 104)]) (Array.mk []) (nat_lit 0) (!P.followText "set-order") (nat_lit 2) true)) (Array.mk []))
noncomputable def aO16_309 (P : Params) : Obj := (.mk (.type "bytes_iterator") .none (.fields (Array.mk [(.bytes BTS (nat_lit 603)), (.int (.ofNat (nat_lit 46)) (nat_lit 0))])) (Array.mk []))
noncomputable def aT16 (P : Params) : BT := (BT.ins (BT.ins (aT15 P) (nat_lit 308) (aO16_308 P)) (nat_lit 309) (aO16_309 P))
noncomputable def aS16 (w : World) (os : OsState) : SharedT := ⟨aT16 w.params, nat_lit 310, {}, Array.mk [], {}, nat_lit 700, os⟩
noncomputable def aO17_308 (P : Params) : Obj := (.mk (.type "set") .none (.set (Array.mk [((.ofNat (nat_lit 46)), (.int (.ofNat (nat_lit 46)) (nat_lit 608))), ((.ofNat (nat_lit 47)), (.int (.ofNat (nat_lit 47)) (nat_lit 610))), ((.ofNat (nat_lit 48)), (.int (.ofNat (nat_lit 48)) (nat_lit 612))), ((.ofNat (nat_lit 49)), (.int (.ofNat (nat_lit 49)) (nat_lit 614))), ((.ofNat (nat_lit 50)), (.int (.ofNat (nat_lit 50)) (nat_lit 616))), ((.ofNat (nat_lit 51)), (.int (.ofNat (nat_lit 51)) (nat_lit 618))), ((.ofNat (nat_lit 52)), (.int (.ofNat (nat_lit 52)) (nat_lit 620))), ((.ofNat (nat_lit 53)), (.int (.ofNat (nat_lit 53)) (nat_lit 622))), ((.ofNat (nat_lit 54)), (.int (.ofNat (nat_lit 54)) (nat_lit 624))), ((.ofNat (nat_lit 55)), (.int (.ofNat (nat_lit 55)) (nat_lit 626))), ((.ofNat (nat_lit 56)), (.int (.ofNat (nat_lit 56)) (nat_lit 628))), ((.ofNat (nat_lit 57)), (.int (.ofNat (nat_lit 57)) (nat_lit 630))), ((.ofNat (nat_lit 65)), (.int (.ofNat (nat_lit 65)) (nat_lit 632))), ((.ofNat (nat_lit 66)), (.int (.ofNat (nat_lit 66)) (nat_lit 634))), ((.ofNat (nat_lit 67)), (.int (.ofNat (nat_lit 67)) (nat_lit 636))), ((.ofNat (nat_lit 68)), (.int (.ofNat (nat_lit 68)) (nat_lit 638))), ((.ofNat (nat_lit 69)), (.int (.ofNat (nat_lit 69)) (nat_lit 640))), ((.ofNat (nat_lit 70)), (.int (.ofNat (nat_lit 70)) (nat_lit 642))), ((.ofNat (nat_lit 71)), (.int (.ofNat (nat_lit 71)) (nat_lit 644))), ((.ofNat (nat_lit 72)), (.int (.ofNat (nat_lit 72)) (nat_lit 646))), ((.ofNat (nat_lit 73)), (.int (.ofNat (nat_lit 73)) (nat_lit 648))), ((.ofNat (nat_lit 74)), (.int (.ofNat (nat_lit 74)) (nat_lit 650))), ((.ofNat (nat_lit 75)), (.int (.ofNat (nat_lit 75)) (nat_lit 652))), ((.ofNat (nat_lit 76)), (.int (.ofNat (nat_lit 76)) (nat_lit 654))), ((.ofNat (nat_lit 77)), (.int (.ofNat (nat_lit 77)) (nat_lit 656))), ((.ofNat (nat_lit 78)), (.int (.ofNat (nat_lit 78)) (nat_lit 658))), ((.ofNat (nat_lit 79)), (.int (.ofNat (nat_lit 79)) (nat_lit 660))), ((.ofNat (nat_lit 80)), (.int (.ofNat (nat_lit 80)) (nat_lit 662))), ((.ofNat (nat_lit 81)), (.int (.ofNat (nat_lit 81)) (nat_lit 664))), ((.ofNat (nat_lit 82)), (.int (.ofNat (nat_lit 82)) (nat_lit 666))), ((.ofNat (nat_lit 83)), (.int (.ofNat (nat_lit 83)) (nat_lit 668))), ((.ofNat (nat_lit 84)), (.int (.ofNat (nat_lit 84)) (nat_lit 670))), ((.ofNat (nat_lit 85)), (.int (.ofNat (nat_lit 85)) (nat_lit 672))), ((.ofNat (nat_lit 86)), (.int (.ofNat (nat_lit 86)) (nat_lit 674))), ((.ofNat (nat_lit 87)), (.int (.ofNat (nat_lit 87)) (nat_lit 676))), ((.ofNat (nat_lit 88)), (.int (.ofNat (nat_lit 88)) (nat_lit 678))), ((.ofNat (nat_lit 89)), (.int (.ofNat (nat_lit 89)) (nat_lit 680))), ((.ofNat (nat_lit 90)), (.int (.ofNat (nat_lit 90)) (nat_lit 682))), ((.ofNat (nat_lit 97)), (.int (.ofNat (nat_lit 97)) (nat_lit 684))), ((.ofNat (nat_lit 98)), (.int (.ofNat (nat_lit 98)) (nat_lit 686))), ((.ofNat (nat_lit 99)), (.int (.ofNat (nat_lit 99)) (nat_lit 688))), ((.ofNat (nat_lit 100)), (.int (.ofNat (nat_lit 100)) (nat_lit 690))), ((.ofNat (nat_lit 101)), (.int (.ofNat (nat_lit 101)) (nat_lit 692))), ((.ofNat (nat_lit 102)), (.int (.ofNat (nat_lit 102)) (nat_lit 694))), ((.ofNat (nat_lit 103)), (.int (.ofNat (nat_lit 103)) (nat_lit 696))), ((.ofNat (nat_lit 104)), (.int (.ofNat (nat_lit 104)) (nat_lit 698))), ((.ofNat (nat_lit 105)), (.int (.ofNat (nat_lit 105)) (nat_lit 700))), ((.ofNat (nat_lit 106)), (.int (.ofNat (nat_lit 106)) (nat_lit 702))), ((.ofNat (nat_lit 107)), (.int (.ofNat (nat_lit 107)) (nat_lit 704)))]) (nat_lit 51) (.mk (nat_lit 127) (Array.mk [(nat_lit 46), (nat_lit 47), (nat_lit 48), (nat_lit 49), (nat_lit 50), (nat_lit 51), (nat_lit 52), (nat_lit 53), (nat_lit 54), (nat_lit 55), (nat_lit 56), (nat_lit 57), (nat_lit 65), (nat_lit 66), (nat_lit 67), (nat_lit 68), (nat_lit 69), (nat_lit 70), (nat_lit 71), (nat_lit 72), (nat_lit 73), (nat_lit 74), (nat_lit 75), (nat_lit 76), (nat_lit 77), (nat_lit 78), (nat_lit 79), (nat_lit 80), (nat_lit 81), (nat_lit 82), (nat_lit 83), (nat_lit 84), (nat_lit 85), (nat_lit 86), (nat_lit 87), (nat_lit 88), (nat_lit 89), (nat_lit 90), (nat_lit 97), (nat_lit 98), (nat_lit 99), (nat_lit 100), (nat_lit 101), (nat_lit 102), (nat_lit 103), (nat_lit 104), (nat_lit 105), (nat_lit 106), (nat_lit 107)]) (Array.mk []) (nat_lit 0) (!P.followText "set-order") (nat_lit 2) true)) (Array.mk []))
noncomputable def aO17_309 (P : Params) : Obj := (.mk (.type "bytes_iterator") .none (.fields (Array.mk [(.bytes BTS (nat_lit 603)), (.int (.ofNat (nat_lit 49)) (nat_lit 0))])) (Array.mk []))
noncomputable def aT17 (P : Params) : BT := (BT.ins (BT.ins (aT16 P) (nat_lit 308) (aO17_308 P)) (nat_lit 309) (aO17_309 P))
noncomputable def aS17 (w : World) (os : OsState) : SharedT := ⟨aT17 w.params, nat_lit 310, {}, Array.mk [], {}, nat_lit 706, os⟩
noncomputable def aO18_308 (P : Params) : Obj := (.mk (.type "set") .none (.set (Array.mk [((.ofNat (nat_lit 46)), (.int (.ofNat (nat_lit 46)) (nat_lit 608))), ((.ofNat (nat_lit 47)), (.int (.ofNat (nat_lit 47)) (nat_lit 610))), ((.ofNat (nat_lit 48)), (.int (.ofNat (nat_lit 48)) (nat_lit 612))), ((.ofNat (nat_lit 49)), (.int (.ofNat (nat_lit 49)) (nat_lit 614))), ((.ofNat (nat_lit 50)), (.int (.ofNat (nat_lit 50)) (nat_lit 616))), ((.ofNat (nat_lit 51)), (.int (.ofNat (nat_lit 51)) (nat_lit 618))), ((.ofNat (nat_lit 52)), (.int (.ofNat (nat_lit 52)) (nat_lit 620))), ((.ofNat (nat_lit 53)), (.int (.ofNat (nat_lit 53)) (nat_lit 622))), ((.ofNat (nat_lit 54)), (.int (.ofNat (nat_lit 54)) (nat_lit 624))), ((.ofNat (nat_lit 55)), (.int (.ofNat (nat_lit 55)) (nat_lit 626))), ((.ofNat (nat_lit 56)), (.int (.ofNat (nat_lit 56)) (nat_lit 628))), ((.ofNat (nat_lit 57)), (.int (.ofNat (nat_lit 57)) (nat_lit 630))), ((.ofNat (nat_lit 65)), (.int (.ofNat (nat_lit 65)) (nat_lit 632))), ((.ofNat (nat_lit 66)), (.int (.ofNat (nat_lit 66)) (nat_lit 634))), ((.ofNat (nat_lit 67)), (.int (.ofNat (nat_lit 67)) (nat_lit 636))), ((.ofNat (nat_lit 68)), (.int (.ofNat (nat_lit 68)) (nat_lit 638))), ((.ofNat (nat_lit 69)), (.int (.ofNat (nat_lit 69)) (nat_lit 640))), ((.ofNat (nat_lit 70)), (.int (.ofNat (nat_lit 70)) (nat_lit 642))), ((.ofNat (nat_lit 71)), (.int (.ofNat (nat_lit 71)) (nat_lit 644))), ((.ofNat (nat_lit 72)), (.int (.ofNat (nat_lit 72)) (nat_lit 646))), ((.ofNat (nat_lit 73)), (.int (.ofNat (nat_lit 73)) (nat_lit 648))), ((.ofNat (nat_lit 74)), (.int (.ofNat (nat_lit 74)) (nat_lit 650))), ((.ofNat (nat_lit 75)), (.int (.ofNat (nat_lit 75)) (nat_lit 652))), ((.ofNat (nat_lit 76)), (.int (.ofNat (nat_lit 76)) (nat_lit 654))), ((.ofNat (nat_lit 77)), (.int (.ofNat (nat_lit 77)) (nat_lit 656))), ((.ofNat (nat_lit 78)), (.int (.ofNat (nat_lit 78)) (nat_lit 658))), ((.ofNat (nat_lit 79)), (.int (.ofNat (nat_lit 79)) (nat_lit 660))), ((.ofNat (nat_lit 80)), (.int (.ofNat (nat_lit 80)) (nat_lit 662))), ((.ofNat (nat_lit 81)), (.int (.ofNat (nat_lit 81)) (nat_lit 664))), ((.ofNat (nat_lit 82)), (.int (.ofNat (nat_lit 82)) (nat_lit 666))), ((.ofNat (nat_lit 83)), (.int (.ofNat (nat_lit 83)) (nat_lit 668))), ((.ofNat (nat_lit 84)), (.int (.ofNat (nat_lit 84)) (nat_lit 670))), ((.ofNat (nat_lit 85)), (.int (.ofNat (nat_lit 85)) (nat_lit 672))), ((.ofNat (nat_lit 86)), (.int (.ofNat (nat_lit 86)) (nat_lit 674))), ((.ofNat (nat_lit 87)), (.int (.ofNat (nat_lit 87)) (nat_lit 676))), ((.ofNat (nat_lit 88)), (.int (.ofNat (nat_lit 88)) (nat_lit 678))), ((.ofNat (nat_lit 89)), (.int (.ofNat (nat_lit 89)) (nat_lit 680))), ((.ofNat (nat_lit 90)), (.int (.ofNat (nat_lit 90)) (nat_lit 682))), ((.ofNat (nat_lit 97)), (.int (.ofNat (nat_lit 97)) (nat_lit 684))), ((.ofNat (nat_lit 98)), (.int (.ofNat (nat_lit 98)) (nat_lit 686))), ((.ofNat (nat_lit 99)), (.int (.ofNat (nat_lit 99)) (nat_lit 688))), ((.ofNat (nat_lit 100)), (.int (.ofNat (nat_lit 100)) (nat_lit 690))), ((.ofNat (nat_lit 101)), (.int (.ofNat (nat_lit 101)) (nat_lit 692))), ((.ofNat (nat_lit 102)), (.int (.ofNat (nat_lit 102)) (nat_lit 694))), ((.ofNat (nat_lit 103)), (.int (.ofNat (nat_lit 103)) (nat_lit 696))), ((.ofNat (nat_lit 104)), (.int (.ofNat (nat_lit 104)) (nat_lit 698))), ((.ofNat (nat_lit 105)), (.int (.ofNat (nat_lit 105)) (nat_lit 700))), ((.ofNat (nat_lit 106)), (.int (.ofNat (nat_lit 106)) (nat_lit 702))), ((.ofNat (nat_lit 107)), (.int (.ofNat (nat_lit 107)) (nat_lit 704))), ((.ofNat (nat_lit 108)), (.int (.ofNat (nat_lit 108)) (nat_lit 706))), ((.ofNat (nat_lit 109)), (.int (.ofNat (nat_lit 109)) (nat_lit 708))), ((.ofNat (nat_lit 110)), (.int (.ofNat (nat_lit 110)) (nat_lit 710)))]) (nat_lit 54) (.mk (nat_lit 127) (Array.mk [(nat_lit 46), (nat_lit 47), (nat_lit 48), (nat_lit 49), (nat_lit 50), (nat_lit 51), (nat_lit 52), (nat_lit 53), (nat_lit 54), (nat_lit 55), (nat_lit 56), (nat_lit 57), (nat_lit 65), (nat_lit 66), (nat_lit 67), (nat_lit 68), (nat_lit 69), (nat_lit 70), (nat_lit 71), (nat_lit 72), (nat_lit 73), (nat_lit 74), (nat_lit 75), (nat_lit 76), (nat_lit 77), (nat_lit 78), (nat_lit 79), (nat_lit 80), (nat_lit 81), (nat_lit 82), (nat_lit 83), (nat_lit 84), (nat_lit 85), (nat_lit 86), (nat_lit 87), (nat_lit 88), (nat_lit 89), (nat_lit 90), (nat_lit 97), (nat_lit 98), (nat_lit 99), (nat_lit 100), (nat_lit 101), (nat_lit 102), (nat_lit 103), (nat_lit 104), (nat_lit 105), (nat_lit 106), (nat_lit 107), (nat_lit 108), (nat_lit 109), (nat_lit 110)]) (Array.mk []) (nat_lit 0) (!P.followText "set-order") (nat_lit 2) true)) (Array.mk []))
noncomputable def aO18_309 (P : Params) : Obj := (.mk (.type "bytes_iterator") .none (.fields (Array.mk [(.bytes BTS (nat_lit 603)), (.int (.ofNat (nat_lit 52)) (nat_lit 0))])) (Array.mk []))
noncomputable def aT18 (P : Params) : BT := (BT.ins (BT.ins (aT17 P) (nat_lit 308) (aO18_308 P)) (nat_lit 309) (aO18_309 P))
noncomputable def aS18 (w : World) (os : OsState) : SharedT := ⟨aT18 w.params, nat_lit 310, {}, Array.mk [], {}, nat_lit 712, os⟩
noncomputable def aO19_308 (P : Params) : Obj := (.mk (.type "set") .none (.set (Array.mk [((.ofNat (nat_lit 46)), (.int (.ofNat (nat_lit 46)) (nat_lit 608))), ((.ofNat (nat_lit 47)), (.int (.ofNat (nat_lit 47)) (nat_lit 610))), ((.ofNat (nat_lit 48)), (.int (.ofNat (nat_lit 48)) (nat_lit 612))), ((.ofNat (nat_lit 49)), (.int (.ofNat (nat_lit 49)) (nat_lit 614))), ((.ofNat (nat_lit 50)), (.int (.ofNat (nat_lit 50)) (nat_lit 616))), ((.ofNat (nat_lit 51)), (.int (.ofNat (nat_lit 51)) (nat_lit 618))), ((.ofNat (nat_lit 52)), (.int (.ofNat (nat_lit 52)) (nat_lit 620))), ((.ofNat (nat_lit 53)), (.int (.ofNat (nat_lit 53)) (nat_lit 622))), ((.ofNat (nat_lit 54)), (.int (.ofNat (nat_lit 54)) (nat_lit 624))), ((.ofNat (nat_lit 55)), (.int (.ofNat (nat_lit 55)) (nat_lit 626))), ((.ofNat (nat_lit 56)), (.int (.ofNat (nat_lit 56)) (nat_lit 628))), ((.ofNat (nat_lit 57)), (.int (.ofNat (nat_lit 57)) (nat_lit 630))), ((.ofNat (nat_lit 65)), (.int (.ofNat (nat_lit 65)) (nat_lit 632))), ((.ofNat (nat_lit 66)), (.int (.ofNat (nat_lit 66)) (nat_lit 634))), ((.ofNat (nat_lit 67)), (.int (.ofNat (nat_lit 67)) (nat_lit 636))), ((.ofNat (nat_lit 68)), (.int (.ofNat (nat_lit 68)) (nat_lit 638))), ((.ofNat (nat_lit 69)), (.int (.ofNat (nat_lit 69)) (nat_lit 640))), ((.ofNat (nat_lit 70)), (.int (.ofNat (nat_lit 70)) (nat_lit 642))), ((.ofNat (nat_lit 71)), (.int (.ofNat (nat_lit 71)) (nat_lit 644))), ((.ofNat (nat_lit 72)), (.int (.ofNat (nat_lit 72)) (nat_lit 646))), ((.ofNat (nat_lit 73)), (.int (.ofNat (nat_lit 73)) (nat_lit 648))), ((.ofNat (nat_lit 74)), (.int (.ofNat (nat_lit 74)) (nat_lit 650))), ((.ofNat (nat_lit 75)), (.int (.ofNat (nat_lit 75)) (nat_lit 652))), ((.ofNat (nat_lit 76)), (.int (.ofNat (nat_lit 76)) (nat_lit 654))), ((.ofNat (nat_lit 77)), (.int (.ofNat (nat_lit 77)) (nat_lit 656))), ((.ofNat (nat_lit 78)), (.int (.ofNat (nat_lit 78)) (nat_lit 658))), ((.ofNat (nat_lit 79)), (.int (.ofNat (nat_lit 79)) (nat_lit 660))), ((.ofNat (nat_lit 80)), (.int (.ofNat (nat_lit 80)) (nat_lit 662))), ((.ofNat (nat_lit 81)), (.int (.ofNat (nat_lit 81)) (nat_lit 664))), ((.ofNat (nat_lit 82)), (.int (.ofNat (nat_lit 82)) (nat_lit 666))), ((.ofNat (nat_lit 83)), (.int (.ofNat (nat_lit 83)) (nat_lit 668))), ((.ofNat (nat_lit 84)), (.int (.ofNat (nat_lit 84)) (nat_lit 670))), ((.ofNat (nat_lit 85)), (.int (.ofNat (nat_lit 85)) (nat_lit 672))), ((.ofNat (nat_lit 86)), (.int (.ofNat (nat_lit 86)) (nat_lit 674))), ((.ofNat (nat_lit 87)), (.int (.ofNat (nat_lit 87)) (nat_lit 676))), ((.ofNat (nat_lit 88)), (.int (.ofNat (nat_lit 88)) (nat_lit 678))), ((.ofNat (nat_lit 89)), (.int (.ofNat (nat_lit 89)) (nat_lit 680))), ((.ofNat (nat_lit 90)), (.int (.ofNat (nat_lit 90)) (nat_lit 682))), ((.ofNat (nat_lit 97)), (.int (.ofNat (nat_lit 97)) (nat_lit 684))), ((.ofNat (nat_lit 98)), (.int (.ofNat (nat_lit 98)) (nat_lit 686))), ((.ofNat (nat_lit 99)), (.int (.ofNat (nat_lit 99)) (nat_lit 688))), ((.ofNat (nat_lit 100)), (.int (.ofNat (nat_lit 100)) (nat_lit 690))), ((.ofNat (nat_lit 101)), (.int (.ofNat (nat_lit 101)) (nat_lit 692))), ((.ofNat (nat_lit 102)), (.int (.ofNat (nat_lit 102)) (nat_lit 694))), ((.ofNat (nat_lit 103)), (.int (.ofNat (nat_lit 103)) (nat_lit 696))), ((.ofNat (nat_lit 104)), (.int (.ofNat (nat_lit 104)) (nat_lit 698))), ((.ofNat (nat_lit 105)), (.int (.ofNat (nat_lit 105)) (nat_lit 700))), ((.ofNat (nat_lit 106)), (.int (.ofNat (nat_lit 106)) (nat_lit 702))), ((.ofNat (nat_lit 107)), (.int (.ofNat (nat_lit 107)) (nat_lit 704))), ((.ofNat (nat_lit 108)), (.int (.ofNat (nat_lit 108)) (nat_lit 706))), ((.ofNat (nat_lit 109)), (.int (.ofNat (nat_lit 109)) (nat_lit 708))), ((.ofNat (nat_lit 110)), (.int (.ofNat (nat_lit 110)) (nat_lit 710))), ((.ofNat (nat_lit 111)), (.int (.ofNat (nat_lit 111)) (nat_lit 712))), ((.ofNat (nat_lit 112)), (.int (.ofNat (nat_lit 112)) (nat_lit 714))), ((.ofNat (nat_lit 113)), (.int (.ofNat (nat_lit 113)) (nat_lit 716)))]) (nat_lit 57) (.mk (nat_lit 127) (Array.mk [(nat_lit 46), (nat_lit 47), (nat_lit 48), (nat_lit 49), (nat_lit 50), (nat_lit 51), (nat_lit 52), (nat_lit 53), (nat_lit 54), (nat_lit 55), (nat_lit 56), (nat_lit 57), (nat_lit 65), (nat_lit 66), (nat_lit 67), (nat_lit 68), (nat_lit 69), (nat_lit 70), (nat_lit 71), (nat_lit 72), (nat_lit 73), (nat_lit 74), (nat_lit 75), (nat_lit 76), (nat_lit 77), (nat_lit 78), (nat_lit 79), (nat_lit 80), (nat_lit 81), (nat_lit 82), (nat_lit 83), (nat_lit 84), (nat_lit 85), (nat_lit 86), (nat_lit 87), (nat_lit 88), (nat_lit 89), (nat_lit 90), (nat_lit 97), (nat_lit 98), (nat_lit 99), (nat_lit 100), (nat_lit 101), (nat_lit 102), (nat_lit 103), (nat_lit 104), (nat_lit 105), (nat_lit 106), (nat_lit 107), (nat_lit 108), (nat_lit 109), (nat_lit 110), (nat_lit 111), (nat_lit 112), (nat_lit 113)]) (Array.mk []) (nat_lit 0) (!P.followText "set-order") (nat_lit 2) true)) (Array.mk []))
noncomputable def aO19_309 (P : Params) : Obj := (.mk (.type "bytes_iterator") .none (.fields (Array.mk [(.bytes BTS (nat_lit 603)), (.int (.ofNat (nat_lit 55)) (nat_lit 0))])) (Array.mk []))
noncomputable def aT19 (P : Params) : BT := (BT.ins (BT.ins (aT18 P) (nat_lit 308) (aO19_308 P)) (nat_lit 309) (aO19_309 P))
noncomputable def aS19 (w : World) (os : OsState) : SharedT := ⟨aT19 w.params, nat_lit 310, {}, Array.mk [], {}, nat_lit 718, os⟩
noncomputable def aO20_308 (P : Params) : Obj := (.mk (.type "set") .none (.set (Array.mk [((.ofNat (nat_lit 46)), (.int (.ofNat (nat_lit 46)) (nat_lit 608))), ((.ofNat (nat_lit 47)), (.int (.ofNat (nat_lit 47)) (nat_lit 610))), ((.ofNat (nat_lit 48)), (.int (.ofNat (nat_lit 48)) (nat_lit 612))), ((.ofNat (nat_lit 49)), (.int (.ofNat (nat_lit 49)) (nat_lit 614))), ((.ofNat (nat_lit 50)), (.int (.ofNat (nat_lit 50)) (nat_lit 616))), ((.ofNat (nat_lit 51)), (.int (.ofNat (nat_lit 51)) (nat_lit 618))), ((.ofNat (nat_lit 52)), (.int (.ofNat (nat_lit 52)) (nat_lit 620))), ((.ofNat (nat_lit 53)), (.int (.ofNat (nat_lit 53)) (nat_lit 622))), ((.ofNat (nat_lit 54)), (.int (.ofNat (nat_lit 54)) (nat_lit 624))), ((.ofNat (nat_lit 55)), (.int (.ofNat (nat_lit 55)) (nat_lit 626))), ((.ofNat (nat_lit 56)), (.int (.ofNat (nat_lit 56)) (nat_lit 628))), ((.ofNat (nat_lit 57)), (.int (.ofNat (nat_lit 57)) (nat_lit 630))), ((.ofNat (nat_lit 65)), (.int (.ofNat (nat_lit 65)) (nat_lit 632))), ((.ofNat (nat_lit 66)), (.int (.ofNat (nat_lit 66)) (nat_lit 634))), ((.ofNat (nat_lit 67)), (.int (.ofNat (nat_lit 67)) (nat_lit 636))), ((.ofNat (nat_lit 68)), (.int (.ofNat (nat_lit 68)) (nat_lit 638))), ((.ofNat (nat_lit 69)), (.int (.ofNat (nat_lit 69)) (nat_lit 640))), ((.ofNat (nat_lit 70)), (.int (.ofNat (nat_lit 70)) (nat_lit 642))), ((.ofNat (nat_lit 71)), (.int (.ofNat (nat_lit 71)) (nat_lit 644))), ((.ofNat (nat_lit 72)), (.int (.ofNat (nat_lit 72)) (nat_lit 646))), ((.ofNat (nat_lit 73)), (.int (.ofNat (nat_lit 73)) (nat_lit 648))), ((.ofNat (nat_lit 74)), (.int (.ofNat (nat_lit 74)) (nat_lit 650))), ((.ofNat (nat_lit 75)), (.int (.ofNat (nat_lit 75)) (nat_lit 652))), ((.ofNat (nat_lit 76)), (.int (.ofNat (nat_lit 76)) (nat_lit 654))), ((.ofNat (nat_lit 77)), (.int (.ofNat (nat_lit 77)) (nat_lit 656))), ((.ofNat (nat_lit 78)), (.int (.ofNat (nat_lit 78)) (nat_lit 658))), ((.ofNat (nat_lit 79)), (.int (.ofNat (nat_lit 79)) (nat_lit 660))), ((.ofNat (nat_lit 80)), (.int (.ofNat (nat_lit 80)) (nat_lit 662))), ((.ofNat (nat_lit 81)), (.int (.ofNat (nat_lit 81)) (nat_lit 664))), ((.ofNat (nat_lit 82)), (.int (.ofNat (nat_lit 82)) (nat_lit 666))), ((.ofNat (nat_lit 83)), (.int (.ofNat (nat_lit 83)) (nat_lit 668))), ((.ofNat (nat_lit 84)), (.int (.ofNat (nat_lit 84)) (nat_lit 670))), ((.ofNat (nat_lit 85)), (.int (.ofNat (nat_lit 85)) (nat_lit 672))), ((.ofNat (nat_lit 86)), (.int (.ofNat (nat_lit 86)) (nat_lit 674))), ((.ofNat (nat_lit 87)), (.int (.ofNat (nat_lit 87)) (nat_lit 676))), ((.ofNat (nat_lit 88)), (.int (.ofNat (nat_lit 88)) (nat_lit 678))), ((.ofNat (nat_lit 89)), (.int (.ofNat (nat_lit 89)) (nat_lit 680))), ((.ofNat (nat_lit 90)), (.int (.ofNat (nat_lit 90)) (nat_lit 682))), ((.ofNat (nat_lit 97)), (.int (.ofNat (nat_lit 97)) (nat_lit 684))), ((.ofNat (nat_lit 98)), (.int (.ofNat (nat_lit 98)) (nat_lit 686))), ((.ofNat (nat_lit 99)), (.int (.ofNat (nat_lit 99)) (nat_lit 688))), ((.ofNat (nat_lit 100)), (.int (.ofNat (nat_lit 100)) (nat_lit 690))), ((.ofNat (nat_lit 101)), (.int (.ofNat (nat_lit 101)) (nat_lit 692))), ((.ofNat (nat_lit 102)), (.int (.ofNat (nat_lit 102)) (nat_lit 694))), ((.ofNat (nat_lit 103)), (.int (.ofNat (nat_lit 103)) (nat_lit 696))), ((.ofNat (nat_lit 104)), (.int (.ofNat (nat_lit 104)) (nat_lit 698))), ((.ofNat (nat_lit 105)), (.int (.ofNat (nat_lit 105)) (nat_lit 700))), ((.ofNat (nat_lit 106)), (.int (.ofNat (nat_lit 106)) (nat_lit 702))), ((.ofNat (nat_lit 107)), (.int (.ofNat (nat_lit 107)) (nat_lit 704))), ((.ofNat (nat_lit 108)), (.int (.ofNat (nat_lit 108)) (nat_lit 706))), ((.ofNat (nat_lit 109)), (.int (.ofNat (nat_lit 109)) (nat_lit 708))), ((.ofNat (nat_lit 110)), (.int (.ofNat (nat_lit 110)) (nat_lit 710))), ((.ofNat (nat_lit 111)), (.int (.ofNat (nat_lit 111)) (nat_lit 712))), ((.ofNat (nat_lit 112)), (.int (.ofNat (nat_lit 112)) (nat_lit 714))), ((.ofNat (nat_lit 113)), (.int (.ofNat (nat_lit 113)) (nat_lit 716))), ((.ofNat (nat_lit 114)), (.int (.ofNat (nat_lit 114)) (nat_lit 718))), ((.ofNat (nat_lit 115)), (.int (.ofNat (nat_lit 115)) (nat_lit 720))), ((.ofNat (nat_lit 116)), (.int (.ofNat (nat_lit 116)) (nat_lit 722)))]) (nat_lit 60) (.mk (nat_lit 127) (Array.mk [(nat_lit 46), (nat_lit 47), (nat_lit 48), (nat_lit 49), (nat_lit 50), (nat_lit 51), (nat_lit 52), (nat_lit 53), (nat_lit 54), (nat_lit 55), (nat_lit 56), (nat_lit 57), (nat_lit 65), (nat_lit 66), (nat_lit 67), (nat_lit 68), (nat_lit 69), (nat_lit 70), (nat_lit 71), (nat_lit 72), (nat_lit 73), (nat_lit 74), (nat_lit 75), (nat_lit 76), (nat_lit 77), (nat_lit 78), (nat_lit 79), (nat_lit 80), (nat_lit 81), (nat_lit 82), (nat_lit 83), (nat_lit 84), (nat_lit 85), (nat_lit 86), (nat_lit 87), (nat_lit 88), (nat_lit 89), (nat_lit 90), (nat_lit 97), (nat_lit 98), (nat_lit 99), (nat_lit 100), (nat_lit 101), (nat_lit 102), (nat_lit 103), (nat_lit 104), (nat_lit 105), (nat_lit 106), (nat_lit 107), (nat_lit 108), (nat_lit 109), (nat_lit 110), (nat_lit 111), (nat_lit 112), (nat_lit 113), (nat_lit 114), (nat_lit 115), (nat_lit 116)]) (Array.mk []) (nat_lit 0) (!P.followText "set-order") (nat_lit 2) true)) (Array.mk []))
noncomputable def aO20_309 (P : Params) : Obj := (.mk (.type "bytes_iterator") .none (.fields (Array.mk [(.bytes BTS (nat_lit 603)), (.int (.ofNat (nat_lit 58)) (nat_lit 0))])) (Array.mk []))
noncomputable def aT20 (P : Params) : BT := (BT.ins (BT.ins (aT19 P) (nat_lit 308) (aO20_308 P)) (nat_lit 309) (aO20_309 P))
noncomputable def aS20 (w : World) (os : OsState) : SharedT := ⟨aT20 w.params, nat_lit 310, {}, Array.mk [], {}, nat_lit 724, os⟩
noncomputable def aO21_308 (P : Params) : Obj := (.mk (.type "set") .none (.set (Array.mk [((.ofNat (nat_lit 46)), (.int (.ofNat (nat_lit 46)) (nat_lit 608))), ((.ofNat (nat_lit 47)), (.int (.ofNat (nat_lit 47)) (nat_lit 610))), ((.ofNat (nat_lit 48)), (.int (.ofNat (nat_lit 48)) (nat_lit 612))), ((.ofNat (nat_lit 49)), (.int (.ofNat (nat_lit 49)) (nat_lit 614))), ((.ofNat (nat_lit 50)), (.int (.ofNat (nat_lit 50)) (nat_lit 616))), ((.ofNat (nat_lit 51)), (.int (.ofNat (nat_lit 51)) (nat_lit 618))), ((.ofNat (nat_lit 52)), (.int (.ofNat (nat_lit 52)) (nat_lit 620))), ((.ofNat (nat_lit 53)), (.int (.ofNat (nat_lit 53)) (nat_lit 622))), ((.ofNat (nat_lit 54)), (.int (.ofNat (nat_lit 54)) (nat_lit 624))), ((.ofNat (nat_lit 55)), (.int (.ofNat (nat_lit 55)) (nat_lit 626))), ((.ofNat (nat_lit 56)), (.int (.ofNat (nat_lit 56)) (nat_lit 628))), ((.ofNat (nat_lit 57)), (.int (.ofNat (nat_lit 57)) (nat_lit 630))), ((.ofNat (nat_lit 65)), (.int (.ofNat (nat_lit 65)) (nat_lit 632))), ((.ofNat (nat_lit 66)), (.int (.ofNat (nat_lit 66)) (nat_lit 634))), ((.ofNat (nat_lit 67)), (.int (.ofNat (nat_lit 67)) (nat_lit 636))), ((.ofNat (nat_lit 68)), (.int (.ofNat (nat_lit 68)) (nat_lit 638))), ((.ofNat (nat_lit 69)), (.int (.ofNat (nat_lit 69)) (nat_lit 640))), ((.ofNat (nat_lit 70)), (.int (.ofNat (nat_lit 70)) (nat_lit 642))), ((.ofNat (nat_lit 71)), (.int (.ofNat (nat_lit 71)) (nat_lit 644))), ((.ofNat (nat_lit 72)), (.int (.ofNat (nat_lit 72)) (nat_lit 646))), ((.ofNat (nat_lit 73)), (.int (.ofNat (nat_lit 73)) (nat_lit 648))), ((.ofNat (nat_lit 74)), (.int (.ofNat (nat_lit 74)) (nat_lit 650))), ((.ofNat (nat_lit 75)), (.int (.ofNat (nat_lit 75)) (nat_lit 652))), ((.ofNat (nat_lit 76)), (.int (.ofNat (nat_lit 76)) (nat_lit 654))), ((.ofNat (nat_lit 77)), (.int (.ofNat (nat_lit 77)) (nat_lit 656))), ((.ofNat (nat_lit 78)), (.int (.ofNat (nat_lit 78)) (nat_lit 658))), ((.ofNat (nat_lit 79)), (.int (.ofNat (nat_lit 79)) (nat_lit 660))), ((.ofNat (nat_lit 80)), (.int (.ofNat (nat_lit 80)) (nat_lit 662))), ((.ofNat (nat_lit 81)), (.int (.ofNat (nat_lit 81)) (nat_lit 664))), ((.ofNat (nat_lit 82)), (.int (.ofNat (nat_lit 82)) (nat_lit 666))), ((.ofNat (nat_lit 83)), (.int (.ofNat (nat_lit 83)) (nat_lit 668))), ((.ofNat (nat_lit 84)), (.int (.ofNat (nat_lit 84)) (nat_lit 670))), ((.ofNat (nat_lit 85)), (.int (.ofNat (nat_lit 85)) (nat_lit 672))), ((.ofNat (nat_lit 86)), (.int (.ofNat (nat_lit 86)) (nat_lit 674))), ((.ofNat (nat_lit 87)), (.int (.ofNat (nat_lit 87)) (nat_lit 676))), ((.ofNat (nat_lit 88)), (.int (.ofNat (nat_lit 88)) (nat_lit 678))), ((.ofNat (nat_lit 89)), (.int (.ofNat (nat_lit 89)) (nat_lit 680))), ((.ofNat (nat_lit 90)), (.int (.ofNat (nat_lit 90)) (nat_lit 682))), ((.ofNat (nat_lit 97)), (.int (.ofNat (nat_lit 97)) (nat_lit 684))), ((.ofNat (nat_lit 98)), (.int (.ofNat (nat_lit 98)) (nat_lit 686))), ((.ofNat (nat_lit 99)), (.int (.ofNat (nat_lit 99)) (nat_lit 688))), ((.ofNat (nat_lit 100)), (.int (.ofNat (nat_lit 100)) (nat_lit 690))), ((.ofNat (nat_lit 101)), (.int (.ofNat (nat_lit 101)) (nat_lit 692))), ((.ofNat (nat_lit 102)), (.int (.ofNat (nat_lit 102)) (nat_lit 694))), ((.ofNat (nat_lit 103)), (.int (.ofNat (nat_lit 103)) (nat_lit 696))), ((.ofNat (nat_lit 104)), (.int (.ofNat (nat_lit 104)) (nat_lit 698))), ((.ofNat (nat_lit 105)), (.int (.ofNat (nat_lit 105)) (nat_lit 700))), ((.ofNat (nat_lit 106)), (.int (.ofNat (nat_lit 106)) (nat_lit 702))), ((.ofNat (nat_lit 107)), (.int (.ofNat (nat_lit 107)) (nat_lit 704))), ((.ofNat (nat_lit 108)), (.int (.ofNat (nat_lit 108)) (nat_lit 706))), ((.ofNat (nat_lit 109)), (.int (.ofNat (nat_lit 109)) (nat_lit 708))), ((.ofNat (nat_lit 110)), (.int (.ofNat (nat_lit 110)) (nat_lit 710))), ((.ofNat (nat_lit 111)), (.int (.ofNat (nat_lit 111)) (nat_lit 712))), ((.ofNat (nat_lit 112)), (.int (.ofNat (nat_lit 112)) (nat_lit 714))), ((.ofNat (nat_lit 113)), (.int (.ofNat (nat_lit 113)) (nat_lit 716))), ((.ofNat (nat_lit 114)), (.int (.ofNat (nat_lit 114)) (nat_lit 718))), ((.ofNat (nat_lit 115)), (.int (.ofNat (nat_lit 115)) (nat_lit 720))), ((.ofNat (nat_lit 116)), (.int (.ofNat (nat_lit 116)) (nat_lit 722))), ((.ofNat (nat_lit 117)), (.int (.ofNat (nat_lit 117)) (nat_lit 724))), ((.ofNat (nat_lit 118)), (.int (.ofNat (nat_lit 118)) (nat_lit 726))), ((.ofNat (nat_lit 119)), (.int (.ofNat (nat_lit 119)) (nat_lit 728)))]) (nat_lit 63) (.mk (nat_lit 127) (Array.mk [(nat_lit 46), (nat_lit 47), (nat_lit 48), (nat_lit 49), (nat_lit 50), (nat_lit 51), (nat_lit 52), (nat_lit 53), (nat_lit 54), (nat_lit 55), (nat_lit 56), (nat_lit 57), (nat_lit 65), (nat_lit 66), (nat_lit 67), (nat_lit 68), (nat_lit 69), (nat_lit 70), (nat_lit 71), (nat_lit 72), (nat_lit 73), (nat_lit 74), (nat_lit 75), (nat_lit 76), (nat_lit 77), (nat_lit 78), (nat_lit 79), (nat_lit 80), (nat_lit 81), (nat_lit 82), (nat_lit 83), (nat_lit 84), (nat_lit 85), (nat_lit 86), (nat_lit 87), (nat_lit 88), (nat_lit 89), (nat_lit 90), (nat_lit 97), (nat_lit 98), (nat_lit 99), (nat_lit 100), (nat_lit 101), (nat_lit 102), (nat_lit 103), (nat_lit 104), (nat_lit 105), (nat_lit 106), (nat_lit 107), (nat_lit 108), (nat_lit 109), (nat_lit 110), (nat_lit 111), (nat_lit 112), (nat_lit 113), (nat_lit 114), (nat_lit 115), (nat_lit 116), (nat_lit 117), (nat_lit 118), (nat_lit 119)]) (Array.mk []) (nat_lit 0) (!P.followText "set-order") (nat_lit 2) true)) (Array.mk []))
noncomputable def aO21_309 (P : Params) : Obj := (.mk (.type "bytes_iterator") .none (.fields (Array.mk [(.bytes BTS (nat_lit 603)), (.int (.ofNat (nat_lit 61)) (nat_lit 0))])) (Array.mk []))
noncomputable def aT21 (P : Params) : BT := (BT.ins (BT.ins (aT20 P) (nat_lit 308) (aO21_308 P)) (nat_lit 309) (aO21_309 P))
noncomputable def aS21 (w : World) (os : OsState) : SharedT := ⟨aT21 w.params, nat_lit 310, {}, Array.mk [], {}, nat_lit 730, os⟩
noncomputable def aO22_308 (P : Params) : Obj := (.mk (.type "set") .none (.set (Array.mk [((.ofNat (nat_lit 46)), (.int (.ofNat (nat_lit 46)) (nat_lit 608))), ((.ofNat (nat_lit 47)), (.int (.ofNat (nat_lit 47)) (nat_lit 610))), ((.ofNat (nat_lit 48)), (.int (.ofNat (nat_lit 48)) (nat_lit 612))), ((.ofNat (nat_lit 49)), (.int (.ofNat (nat_lit 49)) (nat_lit 614))), ((.ofNat (nat_lit 50)), (.int (.ofNat (nat_lit 50)) (nat_lit 616))), ((.ofNat (nat_lit 51)), (.int (.ofNat (nat_lit 51)) (nat_lit 618))), ((.ofNat (nat_lit 52)), (.int (.ofNat (nat_lit 52)) (nat_lit 620))), ((.ofNat (nat_lit 53)), (.int (.ofNat (nat_lit 53)) (nat_lit 622))), ((.ofNat (nat_lit 54)), (.int (.ofNat (nat_lit 54)) (nat_lit 624))), ((.ofNat (nat_lit 55)), (.int (.ofNat (nat_lit 55)) (nat_lit 626))), ((.ofNat (nat_lit 56)), (.int (.ofNat (nat_lit 56)) (nat_lit 628))), ((.ofNat (nat_lit 57)), (.int (.ofNat (nat_lit 57)) (nat_lit 630))), ((.ofNat (nat_lit 65)), (.int (.ofNat (nat_lit 65)) (nat_lit 632))), ((.ofNat (nat_lit 66)), (.int (.ofNat (nat_lit 66)) (nat_lit 634))), ((.ofNat (nat_lit 67)), (.int (.ofNat (nat_lit 67)) (nat_lit 636))), ((.ofNat (nat_lit 68)), (.int (.ofNat (nat_lit 68)) (nat_lit 638))), ((.ofNat (nat_lit 69)), (.int (.ofNat (nat_lit 69)) (nat_lit 640))), ((.ofNat (nat_lit 70)), (.int (.ofNat (nat_lit 70)) (nat_lit 642))), ((.ofNat (nat_lit 71)), (.int (.ofNat (nat_lit 71)) (nat_lit 644))), ((.ofNat (nat_lit 72)), (.int (.ofNat (nat_lit 72)) (nat_lit 646))), ((.ofNat (nat_lit 73)), (.int (.ofNat (nat_lit 73)) (nat_lit 648))), ((.ofNat (nat_lit 74)), (.int (.ofNat (nat_lit 74)) (nat_lit 650))), ((.ofNat (nat_lit 75)), (.int (.ofNat (nat_lit 75)) (nat_lit 652))), ((.ofNat (nat_lit 76)), (.int (.ofNat (nat_lit 76)) (nat_lit 654))), ((.ofNat (nat_lit 77)), (.int (.ofNat (nat_lit 77)) (nat_lit 656))), ((.ofNat (nat_lit 78)), (.int (.ofNat (nat_lit 78)) (nat_lit 658))), ((.ofNat (nat_lit 79)), (.int (.ofNat (nat_lit 79)) (nat_lit 660))), ((.ofNat (nat_lit 80)), (.int (.ofNat (nat_lit 80)) (nat_lit 662))), ((.ofNat (nat_lit 81)), (.int (.ofNat (nat_lit 81)) (nat_lit 664))), ((.ofNat (nat_lit 82)), (.int (.ofNat (nat_lit 82)) (nat_lit 666))), ((.ofNat (nat_lit 83)), (.int (.ofNat (nat_lit 83)) (nat_lit 668))), ((.ofNat (nat_lit 84)), (.int (.ofNat (nat_lit 84)) (nat_lit 670))), ((.ofNat (nat_lit 85)), (.int (.ofNat (nat_lit 85)) (nat_lit 672))), ((.ofNat (nat_lit 86)), (.int (.ofNat (nat_lit 86)) (nat_lit 674))), ((.ofNat (nat_lit 87)), (.int (.ofNat (nat_lit 87)) (nat_lit 676))), ((.ofNat (nat_lit 88)), (.int (.ofNat (nat_lit 88)) (nat_lit 678))), ((.ofNat (nat_lit 89)), (.int (.ofNat (nat_lit 89)) (nat_lit 680))), ((.ofNat (nat_lit 90)), (.int (.ofNat (nat_lit 90)) (nat_lit 682))), ((.ofNat (nat_lit 97)), (.int (.ofNat (nat_lit 97)) (nat_lit 684))), ((.ofNat (nat_lit 98)), (.int (.ofNat (nat_lit 98)) (nat_lit 686))), ((.ofNat (nat_lit 99)), (.int (.ofNat (nat_lit 99)) (nat_lit 688))), ((.ofNat (nat_lit 100)), (.int (.ofNat (nat_lit 100)) (nat_lit 690))), ((.ofNat (nat_lit 101)), (.int (.ofNat (nat_lit 101)) (nat_lit 692))), ((.ofNat (nat_lit 102)), (.int (.ofNat (nat_lit 102)) (nat_lit 694))), ((.ofNat (nat_lit 103)), (.int (.ofNat (nat_lit 103)) (nat_lit 696))), ((.ofNat (nat_lit 104)), (.int (.ofNat (nat_lit 104)) (nat_lit 698))), ((.ofNat (nat_lit 105)), (.int (.ofNat (nat_lit 105)) (nat_lit 700))), ((.ofNat (nat_lit 106)), (.int (.ofNat (nat_lit 106)) (nat_lit 702))), ((.ofNat (nat_lit 107)), (.int (.ofNat (nat_lit 107)) (nat_lit 704))), ((.ofNat (nat_lit 108)), (.int (.ofNat (nat_lit 108)) (nat_lit 706))), ((.ofNat (nat_lit 109)), (.int (.ofNat (nat_lit 109)) (nat_lit 708))), ((.ofNat (nat_lit 110)), (.int (.ofNat (nat_lit 110)) (nat_lit 710))), ((.ofNat (nat_lit 111)), (.int (.ofNat (nat_lit 111)) (nat_lit 712))), ((.ofNat (nat_lit 112)), (.int (.ofNat (nat_lit 112)) (nat_lit 714))), ((.ofNat (nat_lit 113)), (.int (.ofNat (nat_lit 113)) (nat_lit 716))), ((.ofNat (nat_lit 114)), (.int (.ofNat (nat_lit 114)) (nat_lit 718))), ((.ofNat (nat_lit 115)), (.int (.ofNat (nat_lit 115)) (nat_lit 720))), ((.ofNat (nat_lit 116)), (.int (.ofNat (nat_lit 116)) (nat_lit 722))), ((.ofNat (nat_lit 117)), (.int (.ofNat (nat_lit 117)) (nat_lit 724))), ((.ofNat (nat_lit 118)), (.int (.ofNat (nat_lit 118)) (nat_lit 726))), ((.ofNat (nat_lit 119)), (.int (.ofNat (nat_lit 119)) (nat_lit 728))), ((.ofNat (nat_lit 120)), (.int (.ofNat (nat_lit 120)) (nat_lit 730))), ((.ofNat (nat_lit 121)), (.int (.ofNat (nat_lit 121)) (nat_lit 732))), ((.ofNat (nat_lit 122)), (.int (.ofNat (nat_lit 122)) (nat_lit 734)))]) (nat_lit 66) (.mk (nat_lit 127) (Array.mk [(nat_lit 46), (nat_lit 47), (nat_lit 48), (nat_lit 49), (nat_lit 50), (nat_lit 51), (nat_lit 52), (nat_lit 53), (nat_lit 54), (nat_lit 55), (nat_lit 56), (nat_lit 57), (nat_lit 65), (nat_lit 66), (nat_lit 67), (nat_lit 68), (nat_lit 69), (nat_lit 70), (nat_lit 71), (nat_lit 72), (nat_lit 73), (nat_lit 74), (nat_lit 75), (nat_lit 76), (nat_lit 77), (nat_lit 78), (nat_lit 79), (nat_lit 80), (nat_lit 81), (nat_lit 82), (nat_lit 83), (nat_lit 84), (nat_lit 85), (nat_lit 86), (nat_lit 87), (nat_lit 88), (nat_lit 89), (nat_lit 90), (nat_lit 97), (nat_lit 98), (nat_lit 99), (nat_lit 100), (nat_lit 101), (nat_lit 102), (nat_lit 103), (nat_lit 104), (nat_lit 105), (nat_lit 106), (nat_lit 107), (nat_lit 108), (nat_lit 109), (nat_lit 110), (nat_lit 111), (nat_lit 112), (nat_lit 113), (nat_lit 114), (nat_lit 115), (nat_lit 116), (nat_lit 117), (nat_lit 118), (nat_lit 119), (nat_lit 120), (nat_lit 121), (nat_lit 122)]) (Array.mk []) (nat_lit 0) (!P.followText "set-order") (nat_lit 2) true)) (Array.mk []))
noncomputable def aO22_309 (P : Params) : Obj := (.mk (.type "bytes_iterator") .none (.fields (Array.mk [(.bytes BTS (nat_lit 603)), (.int (.ofNat (nat_lit 64)) (nat_lit 0))])) (Array.mk []))
noncomputable def aT22 (P : Params) : BT := (BT.ins (BT.ins (aT21 P) (nat_lit 308) (aO22_308 P)) (nat_lit 309) (aO22_309 P))
noncomputable def aS22 (w : World) (os : OsState) : SharedT := ⟨aT22 w.params, nat_lit 310, {}, Array.mk [], {}, nat_lit 736, os⟩
noncomputable def aO23_309 (P : Params) : Obj := (.mk (.type "bytes_iterator") .none (.fields (Array.mk [.none, (.int (.ofNat (nat_lit 64)) (nat_lit 0))])) (Array.mk []))
noncomputable def aO23_310 (P : Params) : Obj := (.mk (.type "tuple") .none (.seq (Array.mk []) (nat_lit 0)) (Array.mk []))
noncomputable def aO23_311 (P : Params) : Obj := (.mk (.type "StopIteration") .none (.fields (Array.mk [(.ref (nat_lit 310)), .none, .none, .none, (.bool false), .none])) (Array.mk []))
noncomputable def aT23 (P : Params) : BT := (BT.ins (BT.ins (BT.ins (aT22 P) (nat_lit 309) (aO23_309 P)) (nat_lit 310) (aO23_310 P)) (nat_lit 311) (aO23_311 P))
noncomputable def aS23 (w : World) (os : OsState) : SharedT := ⟨aT23 w.params, nat_lit 312, {}, Array.mk [], {}, nat_lit 736, os⟩
noncomputable def aTh23 (k0 k1 k2 k3 k4 : Result → Sem Fin) : Thread := ⟨(.pure (.done (.ret .none))), (.builtin "set.update.loop" (.mk [(.ref (nat_lit 308)), (.ref (nat_lit 309))] [])), (.mk (nat_lit 49) (nat_lit 15) (nat_lit 49) (nat_lit 27)), [(.ret k0 .none false [] (.builtin "set.__init__" (.mk [(.ref (nat_lit 308)), (.bytes BTS (nat_lit 603))] [])) (.mk (nat_lit 49) (nat_lit 15) (nat_lit 49) (nat_lit 27)) [(.ref (nat_lit 308)), (.ref (nat_lit 309))]),
    (.ret k1 .none false [(.ref (nat_lit 308)), (.ref (nat_lit 308))] (.builtin "type.__call__" (.mk [(.type "set"), (.bytes BTS (nat_lit 603))] [])) (.mk (nat_lit 49) (nat_lit 15) (nat_lit 49) (nat_lit 27)) [(.builtin "set.__init__"), (.ref (nat_lit 308)), (.bytes BTS (nat_lit 603)), (.builtin "set.__init__"), (.ref (nat_lit 308)), (.bytes BTS (nat_lit 603))]),
    (.ret k2 .none false [] (.func IB (.mk gSi (nat_lit 307) (nat_lit 3) [] n33 (.some (nat_lit 100)) (.ref (nat_lit 99)) (.some (nat_lit 307)) (nat_lit 0))) (.mk (nat_lit 49) (nat_lit 15) (nat_lit 49) (nat_lit 27)) [(.type "set"), (.bytes BTS (nat_lit 603))]),
    (.ret k3 .none false [(.ref (nat_lit 306)), (.ref (nat_lit 306))] (.builtin "type.__call__" (.mk [(.ref (nat_lit 302)), (.str n34 (nat_lit 282))] [])) (.mk (nat_lit 272) (nat_lit 6) (nat_lit 272) (nat_lit 36)) [(.ref (nat_lit 100)), (.ref (nat_lit 306)), (.str n34 (nat_lit 282))]),
    (.ret k4 .none false [] (.body MB ME) (.mk (nat_lit 272) (nat_lit 6) (nat_lit 272) (nat_lit 36)) [(.ref (nat_lit 302)), (.builtin "type.__call__"), (.ref (nat_lit 302)), (.str n34 (nat_lit 282))]), CF]⟩
noncomputable def aO24_95 (P : Params) : Obj := (.mk .none .none (.fields (Array.mk [(.int (.ofNat (nat_lit 53)) (nat_lit 0)), (.int (.ofNat (nat_lit 22)) (nat_lit 0)), (.ref (nat_lit 317))])) (Array.mk []))
noncomputable def aO24_305 (P : Params) : Obj := (.mk (.type "dict") .none (.dict (Array.mk [(.mk (KH P n13) (.str n13 (nat_lit 740)) (.bytes BTS (nat_lit 603))), (.mk (KH P n14) (.str n14 (nat_lit 743)) (.ref (nat_lit 312)))]) (nat_lit 2)) (Array.mk []))
noncomputable def aO24_312 (P : Params) : Obj := (.mk (.type "method-wrapper") .none (.fields (Array.mk [(.builtin "bytes.__getitem__"), (.bytes BTS (nat_lit 603))])) (Array.mk []))
noncomputable def aO24_313 (P : Params) : Obj := (.mk (.type "bytes_iterator") .none (.fields (Array.mk [(.bytes BTS (nat_lit 603)), (.int (.ofNat (nat_lit 0)) (nat_lit 0))])) (Array.mk []))
noncomputable def aO24_314 (P : Params) : Obj := (.mk (.type "enumerate") .none (.fields (Array.mk [.none, (.bool false), (.ref (nat_lit 313)), (.int (.ofNat (nat_lit 0)) (nat_lit 0)), .none, .none])) (Array.mk []))
noncomputable def aO24_315 (P : Params) : Obj := (.mk (.type "tuple") .none (.seq (Array.mk []) (nat_lit 0)) (Array.mk []))
noncomputable def aO24_316 (P : Params) : Obj := (.mk .none .none (.fields (Array.mk [])) (Array.mk []))
noncomputable def aO24_317 (P : Params) : Obj := (.mk (.type "code") .none (.fields (Array.mk [(.str n35 (nat_lit 744)), (.str n36 (nat_lit 745)), (.str n37 (nat_lit 746)), (.int (.ofNat (nat_lit 53)) (nat_lit 0)), (.int (.ofNat (nat_lit 1)) (nat_lit 0)), (.int (.ofNat (nat_lit 0)) (nat_lit 0)), (.int (.ofNat (nat_lit 0)) (nat_lit 0)), (.int (.ofNat (nat_lit 51)) (nat_lit 0)), (.ref (nat_lit 315)), (.bool true), (.int (.ofNat (nat_lit 181)) (nat_lit 0)), (.ref (nat_lit 316)), .none, .none, .none, .none, (.int (.ofNat (nat_lit 747)) (nat_lit 0)), (.int (.ofNat (nat_lit 53)) (nat_lit 0)), (.str n37 (nat_lit 748))])) (Array.mk []))
noncomputable def aO24_318 (P : Params) : Obj := (.mk (.type "frame") .none (.dict (Array.mk [(.mk (KH P n21) (.str n21 (nat_lit 749)) (.ref (nat_lit 314)))]) (nat_lit 1)) (Array.mk []))
noncomputable def aO24_319 (P : Params) : Obj := (.mk (.type "generator") .none (.fields (Array.mk [(.int (.ofNat (nat_lit 0)) (nat_lit 0)), (.str n35 (nat_lit 750)), (.str n36 (nat_lit 751))])) (Array.mk []))
noncomputable def aO24_320 (P : Params) : Obj := (.mk (.type "dict") .none (.dict (Array.mk []) (nat_lit 0)) (Array.mk []))
noncomputable def aO24_321 (P : Params) : Obj := (.mk (.type "tuple") .none (.seq (Array.mk [(.str n38 (nat_lit 753))]) (nat_lit 0)) (Array.mk []))
noncomputable def aO24_322 (P : Params) : Obj := (.mk (.type "AttributeError") .none (.fields (Array.mk [(.ref (nat_lit 321)), .none, .none, .none, (.bool false), .none, (.str n39 (nat_lit 754)), (.ref (nat_lit 319))])) (Array.mk []))
noncomputable def aT24 (P : Params) : BT := (BT.ins (BT.ins (BT.ins (BT.ins (BT.ins (BT.ins (BT.ins (BT.ins (BT.ins (BT.ins (BT.ins (BT.ins (BT.ins (aT23 P) (nat_lit 95) (aO24_95 P)) (nat_lit 305) (aO24_305 P)) (nat_lit 312) (aO24_312 P)) (nat_lit 313) (aO24_313 P)) (nat_lit 314) (aO24_314 P)) (nat_lit 315) (aO24_315 P)) (nat_lit 316) (aO24_316 P)) (nat_lit 317) (aO24_317 P)) (nat_lit 318) (aO24_318 P)) (nat_lit 319) (aO24_319 P)) (nat_lit 320) (aO24_320 P)) (nat_lit 321) (aO24_321 P)) (nat_lit 322) (aO24_322 P))
noncomputable def aS24 (w : World) (os : OsState) : SharedT := ⟨aT24 w.params, nat_lit 323, {}, Array.mk [.fresh (.compStart gE (nat_lit 0) (.ref (nat_lit 314)) .none (.mk gSc (nat_lit 318) (nat_lit 3) [] n40 .none (.ref (nat_lit 317)) (.some (nat_lit 318)) (nat_lit 0)))], {}, nat_lit 755, os⟩
noncomputable def aTh24 (k0 k1 k2 k3 : Result → Sem Fin) : Thread := ⟨(DEN (.builtin "dict.update.loop" (.mk [(.ref (nat_lit 320)), (.ref (nat_lit 319)), (.int (.ofNat (nat_lit 0)) (nat_lit 0)), .none] []))), (.builtin "dict.update.loop" (.mk [(.ref (nat_lit 320)), (.ref (nat_lit 319)), (.int (.ofNat (nat_lit 0)) (nat_lit 0)), .none] [])), (.mk (nat_lit 53) (nat_lit 17) (nat_lit 53) (nat_lit 74)), [(.ret k0 .none false [(.ref (nat_lit 320)), (.ref (nat_lit 320)), (.ref (nat_lit 319))] (.builtin "type.__call__" (.mk [(.type "dict"), (.ref (nat_lit 319))] [])) (.mk (nat_lit 53) (nat_lit 17) (nat_lit 53) (nat_lit 74)) [(.builtin "dict.__init__"), (.ref (nat_lit 320)), (.ref (nat_lit 319)), (.builtin "dict.__init__"), (.ref (nat_lit 320)), (.ref (nat_lit 319))]),
    (.ret k1 .none false [] (.func IB (.mk gSi (nat_lit 307) (nat_lit 3) [] n33 (.some (nat_lit 100)) (.ref (nat_lit 99)) (.some (nat_lit 307)) (nat_lit 0))) (.mk (nat_lit 53) (nat_lit 17) (nat_lit 53) (nat_lit 74)) [(.type "dict"), (.ref (nat_lit 319))]),
    (.ret k2 .none false [(.ref (nat_lit 306)), (.ref (nat_lit 306))] (.builtin "type.__call__" (.mk [(.ref (nat_lit 302)), (.str n34 (nat_lit 282))] [])) (.mk (nat_lit 272) (nat_lit 6) (nat_lit 272) (nat_lit 36)) [(.ref (nat_lit 100)), (.ref (nat_lit 306)), (.str n34 (nat_lit 282))]),
    (.ret k3 .none false [] (.body MB ME) (.mk (nat_lit 272) (nat_lit 6) (nat_lit 272) (nat_lit 36)) [(.ref (nat_lit 302)), (.builtin "type.__call__"), (.ref (nat_lit 302)), (.str n34 (nat_lit 282))]), CF]⟩
noncomputable def aSus (G : Resume → Sem Fin) : GenState := .suspended G [] (.compLoop gE (nat_lit 0) (.ref (nat_lit 314)) .none (.mk gSc (nat_lit 318) (nat_lit 3) [] n40 .none (.ref (nat_lit 317)) (.some (nat_lit 318)) (nat_lit 0))) (.mk (nat_lit 53) (nat_lit 23) (nat_lit 53) (nat_lit 35)) [] false
noncomputable def aThL (k : Nat) (k0 k1 k2 k3 : Result → Sem Fin) : Thread := ⟨(DEN (.builtin "dict.update.loop" (.mk [(.ref (nat_lit 320)), (.ref (nat_lit 319)), (vi k (nat_lit 0)), .none] []))), (.builtin "dict.update.loop" (.mk [(.ref (nat_lit 320)), (.ref (nat_lit 319)), (vi k (nat_lit 0)), .none] [])), (.mk (nat_lit 53) (nat_lit 17) (nat_lit 53) (nat_lit 74)), [(.ret k0 .none false [(.ref (nat_lit 320)), (.ref (nat_lit 320)), (.ref (nat_lit 319))] (.builtin "type.__call__" (.mk [(.type "dict"), (.ref (nat_lit 319))] [])) (.mk (nat_lit 53) (nat_lit 17) (nat_lit 53) (nat_lit 74)) [(.builtin "dict.__init__"), (.ref (nat_lit 320)), (.ref (nat_lit 319)), (.builtin "dict.__init__"), (.ref (nat_lit 320)), (.ref (nat_lit 319))]),
    (.ret k1 .none false [] (.func IB (.mk gSi (nat_lit 307) (nat_lit 3) [] n33 (.some (nat_lit 100)) (.ref (nat_lit 99)) (.some (nat_lit 307)) (nat_lit 0))) (.mk (nat_lit 53) (nat_lit 17) (nat_lit 53) (nat_lit 74)) [(.type "dict"), (.ref (nat_lit 319))]),
    (.ret k2 .none false [(.ref (nat_lit 306)), (.ref (nat_lit 306))] (.builtin "type.__call__" (.mk [(.ref (nat_lit 302)), (.str n34 (nat_lit 282))] [])) (.mk (nat_lit 272) (nat_lit 6) (nat_lit 272) (nat_lit 36)) [(.ref (nat_lit 100)), (.ref (nat_lit 306)), (.str n34 (nat_lit 282))]),
    (.ret k3 .none false [] (.body MB ME) (.mk (nat_lit 272) (nat_lit 6) (nat_lit 272) (nat_lit 36)) [(.ref (nat_lit 302)), (.builtin "type.__call__"), (.ref (nat_lit 302)), (.str n34 (nat_lit 282))]), CF]⟩
noncomputable def aOd_313 (P : Params) : Obj := (.mk (.type "bytes_iterator") .none (.fields (Array.mk [.none, (.int (.ofNat (nat_lit 64)) (nat_lit 0))])) (Array.mk []))
noncomputable def aOd_643 (P : Params) : Obj := (.mk (.type "tuple") .none (.seq (Array.mk []) (nat_lit 0)) (Array.mk []))
noncomputable def aOd_644 (P : Params) : Obj := (.mk (.type "StopIteration") .none (.fields (Array.mk [(.ref (nat_lit 643)), .none, .none, .none, (.bool false), .none])) (Array.mk []))
noncomputable def aOd_645 (P : Params) : Obj := (.mk (.type "tuple") .none (.seq (Array.mk []) (nat_lit 0)) (Array.mk []))
noncomputable def aOd_646 (P : Params) : Obj := (.mk (.type "StopIteration") .none (.fields (Array.mk [(.ref (nat_lit 645)), .none, .none, .none, (.bool false), .none])) (Array.mk []))
noncomputable def aTd (P : Params) : BT := (BT.ins (BT.ins (BT.ins (BT.ins (BT.ins (lT aC aT24 (nat_lit 64) P) (nat_lit 313) (aOd_313 P)) (nat_lit 643) (aOd_643 P)) (nat_lit 644) (aOd_644 P)) (nat_lit 645) (aOd_645 P)) (nat_lit 646) (aOd_646 P))
noncomputable def aSd (w : World) (os : OsState) : SharedT := ⟨aTd w.params, nat_lit 647, {}, Array.mk [.finished], {}, nat_lit 1075, os⟩
noncomputable def aThD (k0 k1 k2 k3 : Result → Sem Fin) : Thread := ⟨(.pure (.done (.ret .none))), (.builtin "dict.update.loop" (.mk [(.ref (nat_lit 320)), (.ref (nat_lit 319)), (.int (.ofNat (nat_lit 64)) (nat_lit 0)), .none] [])), (.mk (nat_lit 53) (nat_lit 17) (nat_lit 53) (nat_lit 74)), [(.ret k0 .none false [(.ref (nat_lit 320)), (.ref (nat_lit 320)), (.ref (nat_lit 319))] (.builtin "type.__call__" (.mk [(.type "dict"), (.ref (nat_lit 319))] [])) (.mk (nat_lit 53) (nat_lit 17) (nat_lit 53) (nat_lit 74)) [(.builtin "dict.__init__"), (.ref (nat_lit 320)), (.ref (nat_lit 319)), (.builtin "dict.__init__"), (.ref (nat_lit 320)), (.ref (nat_lit 319))]),
    (.ret k1 .none false [] (.func IB (.mk gSi (nat_lit 307) (nat_lit 3) [] n33 (.some (nat_lit 100)) (.ref (nat_lit 99)) (.some (nat_lit 307)) (nat_lit 0))) (.mk (nat_lit 53) (nat_lit 17) (nat_lit 53) (nat_lit 74)) [(.type "dict"), (.ref (nat_lit 319))]),
    (.ret k2 .none false [(.ref (nat_lit 306)), (.ref (nat_lit 306))] (.builtin "type.__call__" (.mk [(.ref (nat_lit 302)), (.str n34 (nat_lit 282))] [])) (.mk (nat_lit 272) (nat_lit 6) (nat_lit 272) (nat_lit 36)) [(.ref (nat_lit 100)), (.ref (nat_lit 306)), (.str n34 (nat_lit 282))]),
    (.ret k3 .none false [] (.body MB ME) (.mk (nat_lit 272) (nat_lit 6) (nat_lit 272) (nat_lit 36)) [(.ref (nat_lit 302)), (.builtin "type.__call__"), (.ref (nat_lit 302)), (.str n34 (nat_lit 282))]), CF]⟩
noncomputable def aOe_3 (P : Params) : Obj := (.mk (.type "dict") .none (.dict (Array.mk [(.mk (KH P n41) (.str n41 (nat_lit 165)) (.str n42 (nat_lit 280))), (.mk (KH P n43) (.str n43 (nat_lit 166)) .none), (.mk (KH P n44) (.str n44 (nat_lit 167)) .none), (.mk (KH P n45) (.str n45 (nat_lit 168)) (.builtin "__main__.__loader__#opaque")), (.mk (KH P n46) (.str n46 (nat_lit 169)) .none), (.mk (KH P n47) (.str n47 (nat_lit 170)) (.ref (nat_lit 6))), (.mk (KH P n48) (.str n48 (nat_lit 171)) (.ref (nat_lit 4))), (.mk (KH P n49) (.str n49 (nat_lit 173)) (.str n37 (nat_lit 172))), (.mk (KH P n50) (.str n50 (nat_lit 174)) .none), (.mk (KH P n51) (.str n51 (nat_lit 193)) (.ref (nat_lit 21))), (.mk (KH P n52) (.str n52 (nat_lit 204)) (.ref (nat_lit 28))), (.mk (KH P n53) (.str n53 (nat_lit 224)) (.ref (nat_lit 38))), (.mk (KH P n54) (.str n54 (nat_lit 231)) (.ref (nat_lit 48))), (.mk (KH P n55) (.str n55 (nat_lit 240)) (.ref (nat_lit 55))), (.mk (KH P n6) (.str n6 (nat_lit 248)) (.ref (nat_lit 62))), (.mk (KH P n56) (.str n56 (nat_lit 256)) (.ref (nat_lit 70))), (.mk (KH P n57) (.str n57 (nat_lit 259)) (.bool true)), (.mk (KH P n2) (.str n2 (nat_lit 260)) (.type "str")), (.mk (KH P n58) (.str n58 (nat_lit 261)) (.type "bytes")), (.mk (KH P n59) (.str n59 (nat_lit 262)) (.type "bytes")), (.mk (KH P n60) (.str n60 (nat_lit 269)) (.ref (nat_lit 77))), (.mk (KH P n61) (.str n61 (nat_lit 270)) (.ref (nat_lit 78))), (.mk (KH P n62) (.str n62 (nat_lit 271)) (.type "range")), (.mk (KH P n63) (.str n63 (nat_lit 272)) (.type "map")), (.mk (KH P n64) (.str n64 (nat_lit 279)) (.ref (nat_lit 85))), (.mk (KH P n32) (.str n32 (nat_lit 283)) (.str n34 (nat_lit 282))), (.mk (KH P n65) (.str n65 (nat_lit 581)) (.ref (nat_lit 288))), (.mk (KH P n31) (.str n31 (nat_lit 598)) (.ref (nat_lit 302))), (.mk (KH P n30) (.str n30 (nat_lit 1087)) (.ref (nat_lit 306)))]) (nat_lit 29)) (Array.mk []))
noncomputable def aOe_305 (P : Params) : Obj := (.mk (.type "dict") .none (.dict (Array.mk [(.mk (KH P n13) (.str n13 (nat_lit 740)) (.bytes BTS (nat_lit 603))), (.mk (KH P n14) (.str n14 (nat_lit 743)) (.ref (nat_lit 312))), (.mk (KH P n22) (.str n22 (nat_lit 1078)) (.ref (nat_lit 647))), (.mk (KH P n23) (.str n23 (nat_lit 1080)) (.bool false)), (.mk (KH P n24) (.str n24 (nat_lit 1083)) (.ref (nat_lit 648))), (.mk (KH P n26) (.str n26 (nat_lit 1086)) (.ref (nat_lit 649)))]) (nat_lit 6)) (Array.mk []))
noncomputable def aOe_307 (P : Params) : Obj := (.mk (.type "frame") .none (.dict (Array.mk [(.mk (KH P n12) (.str n12 (nat_lit 599)) (.ref (nat_lit 306))), (.mk (KH P n1) (.str n1 (nat_lit 600)) (.bytes BTS (nat_lit 603))), (.mk (KH P n23) (.str n23 (nat_lit 601)) (.bool false)), (.mk (KH P n16) (.str n16 (nat_lit 1075)) (.ref (nat_lit 320)))]) (nat_lit 4)) (Array.mk []))
noncomputable def aOe_647 (P : Params) : Obj := (.mk (.type "builtin_function_or_method") .none (.fields (Array.mk [(.builtin "dict.__getitem__"), (.ref (nat_lit 320))])) (Array.mk []))
noncomputable def aOe_648 (P : Params) : Obj := (.mk (.type "method") .none (.fields (Array.mk [(.ref (nat_lit 122)), (.ref (nat_lit 306))])) (Array.mk []))
noncomputable def aOe_649 (P : Params) : Obj := (.mk (.type "method") .none (.fields (Array.mk [(.ref (nat_lit 143)), (.ref (nat_lit 306))])) (Array.mk []))
noncomputable def aTe (P : Params) : BT := (BT.ins (BT.ins (BT.ins (BT.ins (BT.ins (BT.ins (aTd P) (nat_lit 3) (aOe_3 P)) (nat_lit 305) (aOe_305 P)) (nat_lit 307) (aOe_307 P)) (nat_lit 647) (aOe_647 P)) (nat_lit 648) (aOe_648 P)) (nat_lit 649) (aOe_649 P))
noncomputable def aSe (w : World) (os : OsState) : SharedT := ⟨aTe w.params, nat_lit 650, {}, Array.mk [.finished], {}, nat_lit 1088, os⟩
noncomputable def aL (k : Nat) (w : World) (os : OsState) (G : Resume → Sem Fin) : SharedT := ⟨lT aC aT24 k w.params, Nat.add aC.n0 (Nat.mul (nat_lit 5) k), {}, Array.mk [aSus G], {}, Nat.add aC.t0 (Nat.mul (nat_lit 5) k), os⟩

noncomputable def bC : LC := ⟨nat_lit 665, nat_lit 1239, nat_lit 658, nat_lit 659, nat_lit 660, nat_lit 662, nat_lit 1092, nat_lit 1233, nat_lit 1241, nat_lit 1242⟩
noncomputable def bSt : List Stmt := grp (nat_lit 23) (nat_lit 1)
noncomputable def bS0 (w : World) (os : OsState) : SharedT := ⟨aTe w.params, nat_lit 650, {}, Array.mk [.finished], {}, nat_lit 1088, os⟩
noncomputable def bTh0 : Thread := ⟨(EX bSt ME).wrap doneF deadEnd id id, MC, (.mk (nat_lit 272) (nat_lit 0) (nat_lit 272) (nat_lit 3)), [CF]⟩
noncomputable def bO1_650 (P : Params) : Obj := (.mk (.type "dict") .none (.dict (Array.mk []) (nat_lit 0)) (Array.mk []))
noncomputable def bO1_651 (P : Params) : Obj := (.mk (.ref (nat_lit 302)) (.some (nat_lit 650)) .plain (Array.mk []))
noncomputable def bO1_652 (P : Params) : Obj := (.mk (.type "frame") .none (.dict (Array.mk [(.mk (KH P n12) (.str n12 (nat_lit 1088)) (.ref (nat_lit 651))), (.mk (KH P n1) (.str n1 (nat_lit 1089)) (.bytes BTS (nat_lit 1092))), (.mk (KH P n23) (.str n23 (nat_lit 1090)) (.bool true))]) (nat_lit 3)) (Array.mk []))
noncomputable def bO1_653 (P : Params) : Obj := (.mk (.type "set") .none (.set (Array.mk [((.ofNat (nat_lit 46)), (.int (.ofNat (nat_lit 46)) (nat_lit 1097)))]) (nat_lit 1) (.mk (nat_lit 7) (Array.mk [(nat_lit 6)]) (Array.mk []) (nat_lit 0) (!P.followText "set-order") (nat_lit 0) true)) (Array.mk []))
noncomputable def bO1_654 (P : Params) : Obj := (.mk (.type "bytes_iterator") .none (.fields (Array.mk [(.bytes BTS (nat_lit 1092)), (.int (.ofNat (nat_lit 1)) (nat_lit 0))])) (Array.mk []))
noncomputable def bT1 (P : Params) : BT := (BT.ins (BT.ins (BT.ins (BT.ins (BT.ins (aTe P) (nat_lit 650) (bO1_650 P)) (nat_lit 651) (bO1_651 P)) (nat_lit 652) (bO1_652 P)) (nat_lit 653) (bO1_653 P)) (nat_lit 654) (bO1_654 P))
noncomputable def bS1 (w : World) (os : OsState) : SharedT := ⟨bT1 w.params, nat_lit 655, {}, Array.mk [.finished], {}, nat_lit 1099, os⟩
noncomputable def bTh1 (k0 k1 k2 k3 k4 : Result → Sem Fin) : Thread := ⟨(DEN (.builtin "set.update.loop" (.mk [(.ref (nat_lit 653)), (.ref (nat_lit 654))] []))), (.builtin "set.update.loop" (.mk [(.ref (nat_lit 653)), (.ref (nat_lit 654))] [])), (.mk (nat_lit 49) (nat_lit 15) (nat_lit 49) (nat_lit 27)), [(.ret k0 .none false [] (.builtin "set.__init__" (.mk [(.ref (nat_lit 653)), (.bytes BTS (nat_lit 1092))] [])) (.mk (nat_lit 49) (nat_lit 15) (nat_lit 49) (nat_lit 27)) [(.ref (nat_lit 653)), (.ref (nat_lit 654))]),
    (.ret k1 .none false [(.ref (nat_lit 653)), (.ref (nat_lit 653))] (.builtin "type.__call__" (.mk [(.type "set"), (.bytes BTS (nat_lit 1092))] [])) (.mk (nat_lit 49) (nat_lit 15) (nat_lit 49) (nat_lit 27)) [(.builtin "set.__init__"), (.ref (nat_lit 653)), (.bytes BTS (nat_lit 1092)), (.builtin "set.__init__"), (.ref (nat_lit 653)), (.bytes BTS (nat_lit 1092))]),
    (.ret k2 .none false [] (.func IB (.mk gSi (nat_lit 652) (nat_lit 3) [] n33 (.some (nat_lit 100)) (.ref (nat_lit 99)) (.some (nat_lit 652)) (nat_lit 0))) (.mk (nat_lit 49) (nat_lit 15) (nat_lit 49) (nat_lit 27)) [(.type "set"), (.bytes BTS (nat_lit 1092))]),
    (.ret k3 .none false [(.ref (nat_lit 651)), (.ref (nat_lit 651))] (.builtin "type.__call__" (.mk [(.ref (nat_lit 302)), (.str n34 (nat_lit 282))] [(n23, (.bool true))])) (.mk (nat_lit 273) (nat_lit 9) (nat_lit 273) (nat_lit 49)) [(.ref (nat_lit 100)), (.ref (nat_lit 651)), (.str n34 (nat_lit 282)), (.bool true)]),
    (.ret k4 .none false [] (.body MB ME) (.mk (nat_lit 273) (nat_lit 9) (nat_lit 273) (nat_lit 49)) [(.ref (nat_lit 302)), (.builtin "type.__call__"), (.ref (nat_lit 302)), (.str n34 (nat_lit 282)), (.bool true)]), CF]⟩
noncomputable def bO2_653 (P : Params) : Obj := (.mk (.type "set") .none (.set (Array.mk [((.ofNat (nat_lit 48)), (.int (.ofNat (nat_lit 48)) (nat_lit 1101))), ((.ofNat (nat_lit 49)), (.int (.ofNat (nat_lit 49)) (nat_lit 1103))), ((.ofNat (nat_lit 46)), (.int (.ofNat (nat_lit 46)) (nat_lit 1097))), ((.ofNat (nat_lit 47)), (.int (.ofNat (nat_lit 47)) (nat_lit 1099)))]) (nat_lit 4) (.mk (nat_lit 7) (Array.mk [(nat_lit 0), (nat_lit 1), (nat_lit 6), (nat_lit 7)]) (Array.mk []) (nat_lit 0) (!P.followText "set-order") (nat_lit 0) true)) (Array.mk []))
noncomputable def bO2_654 (P : Params) : Obj := (.mk (.type "bytes_iterator") .none (.fields (Array.mk [(.bytes BTS (nat_lit 1092)), (.int (.ofNat (nat_lit 4)) (nat_lit 0))])) (Array.mk []))
noncomputable def bT2 (P : Params) : BT := (BT.ins (BT.ins (bT1 P) (nat_lit 653) (bO2_653 P)) (nat_lit 654) (bO2_654 P))
noncomputable def bS2 (w : World) (os : OsState) : SharedT := ⟨bT2 w.params, nat_lit 655, {}, Array.mk [.finished], {}, nat_lit 1105, os⟩
noncomputable def bO3_653 (P : Params) : Obj := (.mk (.type "set") .none (.set (Array.mk [((.ofNat (nat_lit 46)), (.int (.ofNat (nat_lit 46)) (nat_lit 1097))), ((.ofNat (nat_lit 47)), (.int (.ofNat (nat_lit 47)) (nat_lit 1099))), ((.ofNat (nat_lit 48)), (.int (.ofNat (nat_lit 48)) (nat_lit 1101))), ((.ofNat (nat_lit 49)), (.int (.ofNat (nat_lit 49)) (nat_lit 1103))), ((.ofNat (nat_lit 50)), (.int (.ofNat (nat_lit 50)) (nat_lit 1105))), ((.ofNat (nat_lit 51)), (.int (.ofNat (nat_lit 51)) (nat_lit 1107))), ((.ofNat (nat_lit 52)), (.int (.ofNat (nat_lit 52)) (nat_lit 1109)))]) (nat_lit 8) (.mk (nat_lit 31) (Array.mk [(nat_lit 14), (nat_lit 15), (nat_lit 16), (nat_lit 17), (nat_lit 18), (nat_lit 19), (nat_lit 20)]) (Array.mk []) (nat_lit 0) (!P.followText "set-order") (nat_lit 1) true)) (Array.mk []))
noncomputable def bO3_654 (P : Params) : Obj := (.mk (.type "bytes_iterator") .none (.fields (Array.mk [(.bytes BTS (nat_lit 1092)), (.int (.ofNat (nat_lit 7)) (nat_lit 0))])) (Array.mk []))
noncomputable def bT3 (P : Params) : BT := (BT.ins (BT.ins (bT2 P) (nat_lit 653) (bO3_653 P)) (nat_lit 654) (bO3_654 P))
noncomputable def bS3 (w : World) (os : OsState) : SharedT := ⟨bT3 w.params, nat_lit 655, {}, Array.mk [.finished], {}, nat_lit 1111, os⟩
noncomputable def bO4_653 (P : Params) : Obj := (.mk (.type "set") .none (.set (Array.mk [((.ofNat (nat_lit 46)), (.int (.ofNat (nat_lit 46)) (nat_lit 1097))), ((.ofNat (nat_lit 47)), (.int (.ofNat (nat_lit 47)) (nat_lit 1099))), ((.ofNat (nat_lit 48)), (.int (.ofNat (nat_lit 48)) (nat_lit 1101))), ((.ofNat (nat_lit 49)), (.int (.ofNat (nat_lit 49)) (nat_lit 1103))), ((.ofNat (nat_lit 50)), (.int (.ofNat (nat_lit 50)) (nat_lit 1105))), ((.ofNat (nat_lit 51)), (.int (.ofNat (nat_lit 51)) (nat_lit 1107))), ((.ofNat (nat_lit 52)), (.int (.ofNat (nat_lit 52)) (nat_lit 1109))), ((.ofNat (nat_lit 53)), (.int (.ofNat (nat_lit 53)) (nat_lit 1111))), ((.ofNat (nat_lit 54)), (.int (.ofNat (nat_lit 54)) (nat_lit 1113))), ((.ofNat (nat_lit 55)), (.int (.ofNat (nat_lit 55)) (nat_lit 1115)))]) (nat_lit 11) (.mk (nat_lit 31) (Array.mk [(nat_lit 14), (nat_lit 15), (nat_lit 16), (nat_lit 17), (nat_lit 18), (nat_lit 19), (nat_lit 20), (nat_lit 21), (nat_lit 22), (nat_lit 23)]) (Array.mk []) (nat_lit 0) (!P.followText "set-order") (nat_lit 1) true)) (Array.mk []))
noncomputable def bO4_654 (P : Params) : Obj := (.mk (.type "bytes_iterator") .none (.fields (Array.mk [(.bytes BTS (nat_lit 1092)), (.int (.ofNat (nat_lit 10)) (nat_lit 0))])) (Array.mk []))
noncomputable def bT4 (P : Params) : BT := (BT.ins (BT.ins (bT3 P) (nat_lit 653) (bO4_653 P)) (nat_lit 654) (bO4_654 P))
noncomputable def bS4 (w : World) (os : OsState) : SharedT := ⟨bT4 w.params, nat_lit 655, {}, Array.mk [.finished], {}, nat_lit 1117, os⟩
noncomputable def bO5_653 (P : Params) : Obj := (.mk (.type "set") .none (.set (Array.mk [((.ofNat (nat_lit 65)), (.int (.ofNat (nat_lit 65)) (nat_lit 1121))), ((.ofNat (nat_lit 46)), (.int (.ofNat (nat_lit 46)) (nat_lit 1097))), ((.ofNat (nat_lit 47)), (.int (.ofNat (nat_lit 47)) (nat_lit 1099))), ((.ofNat (nat_lit 48)), (.int (.ofNat (nat_lit 48)) (nat_lit 1101))), ((.ofNat (nat_lit 49)), (.int (.ofNat (nat_lit 49)) (nat_lit 1103))), ((.ofNat (nat_lit 50)), (.int (.ofNat (nat_lit 50)) (nat_lit 1105))), ((.ofNat (nat_lit 51)), (.int (.ofNat (nat_lit 51)) (nat_lit 1107))), ((.ofNat (nat_lit 52)), (.int (.ofNat (nat_lit 52)) (nat_lit 1109))), ((.ofNat (nat_lit 53)), (.int (.ofNat (nat_lit 53)) (nat_lit 1111))), ((.ofNat (nat_lit 54)), (.int (.ofNat (nat_lit 54)) (nat_lit 1113))), ((.ofNat (nat_lit 55)), (.int (.ofNat (nat_lit 55)) (nat_lit 1115))), ((.ofNat (nat_lit 56)), (.int (.ofNat (nat_lit 56)) (nat_lit 1117))), ((.ofNat (nat_lit 57)), (.int (.ofNat (nat_lit 57)) (nat_lit 1119)))]) (nat_lit 14) (.mk (nat_lit 31) (Array.mk [(nat_lit 1), (nat_lit 14), (nat_lit 15), (nat_lit 16), (nat_lit 17), (nat_lit 18), (nat_lit 19), (nat_lit 20), (nat_lit 21), (nat_lit 22), (nat_lit 23), (nat_lit 24), (nat_lit 25)]) (Array.mk []) (nat_lit 0) (!P.followText "set-order") (nat_lit 1) true)) (Array.mk []))
noncomputable def bO5_654 (P : Params) : Obj := (.mk (.type "bytes_iterator") .none (.fields (Array.mk [(.bytes BTS (nat_lit 1092)), (.int (.ofNat (nat_lit 13)) (nat_lit 0))])) (Array.mk []))
noncomputable def bT5 (P : Params) : BT := (BT.ins (BT.ins (bT4 P) (nat_lit 653) (bO5_653 P)) (nat_lit 654) (bO5_654 P))
noncomputable def bS5 (w : World) (os : OsState) : SharedT := ⟨bT5 w.params, nat_lit 655, {}, Array.mk [.finished], {}, nat_lit 1123, os⟩
noncomputable def bO6_653 (P : Params) : Obj := (.mk (.type "set") .none (.set (Array.mk [((.ofNat (nat_lit 65)), (.int (.ofNat (nat_lit 65)) (nat_lit 1121))), ((.ofNat (nat_lit 66)), (.int (.ofNat (nat_lit 66)) (nat_lit 1123))), ((.ofNat (nat_lit 67)), (.int (.ofNat (nat_lit 67)) (nat_lit 1125))), ((.ofNat (nat_lit 68)), (.int (.ofNat (nat_lit 68)) (nat_lit 1127))), ((.ofNat (nat_lit 46)), (.int (.ofNat (nat_lit 46)) (nat_lit 1097))), ((.ofNat (nat_lit 47)), (.int (.ofNat (nat_lit 47)) (nat_lit 1099))), ((.ofNat (nat_lit 48)), (.int (.ofNat (nat_lit 48)) (nat_lit 1101))), ((.ofNat (nat_lit 49)), (.int (.ofNat (nat_lit 49)) (nat_lit 1103))), ((.ofNat (nat_lit 50)), (.int (.ofNat (nat_lit 50)) (nat_lit 1105))), ((.ofNat (nat_lit 51)), (.int (.ofNat (nat_lit 51)) (nat_lit 1107))), ((.ofNat (nat_lit 52)), (.int (.ofNat (nat_lit 52)) (nat_lit 1109))), ((.ofNat (nat_lit 53)), (.int (.ofNat (nat_lit 53)) (nat_lit 1111))), ((.ofNat (nat_lit 54)), (.int (.ofNat (nat_lit 54)) (nat_lit 1113))), ((.ofNat (nat_lit 55)), (.int (.ofNat (nat_lit 55)) (nat_lit 1115))), ((.ofNat (nat_lit 56)), (.int (.ofNat (nat_lit 56)) (nat_lit 1117))), ((.ofNat (nat_lit 57)), (.int (.ofNat (nat_lit 57)) (nat_lit 1119)))]) (nat_lit 17) (.mk (nat_lit 31) (Array.mk [(nat_lit 1), (nat_lit 2), (nat_lit 3), (nat_lit 4), (nat_lit 14), (nat_lit 15), (nat_lit 16), (nat_lit 17), (nat_lit 18), (nat_lit 19), (nat_lit 20), (nat_lit 21), (nat_lit 22), (nat_lit 23), (nat_lit 24), (nat_lit 25)]) (Array.mk []) (nat_lit 0) (!P.followText "set-order") (nat_lit 1) true)) (Array.mk []))
noncomputable def bO6_654 (P : Params) : Obj := (.mk (.type "bytes_iterator") .none (.fields (Array.mk [(.bytes BTS (nat_lit 1092)), (.int (.ofNat (nat_lit 16)) (nat_lit 0))])) (Array.mk []))
noncomputable def bT6 (P : Params) : BT := (BT.ins (BT.ins (bT5 P) (nat_lit 653) (bO6_653 P)) (nat_lit 654) (bO6_654 P))
noncomputable def bS6 (w : World) (os : OsState) : SharedT := ⟨bT6 w.params, nat_lit 655, {}, Array.mk [.finished], {}, nat_lit 1129, os⟩
noncomputable def bO7_653 (P : Params) : Obj := (.mk (.type "set") .none (.set (Array.mk [((.ofNat (nat_lit 46)), (.int (.ofNat (nat_lit 46)) (nat_lit 1097))), ((.ofNat (nat_lit 47)), (.int (.ofNat (nat_lit 47)) (nat_lit 1099))), ((.ofNat (nat_lit 48)), (.int (.ofNat (nat_lit 48)) (nat_lit 1101))), ((.ofNat (nat_lit 49)), (.int (.ofNat (nat_lit 49)) (nat_lit 1103))), ((.ofNat (nat_lit 50)), (.int (.ofNat (nat_lit 50)) (nat_lit 1105))), ((.ofNat (nat_lit 51)), (.int (.ofNat (nat_lit 51)) (nat_lit 1107))), ((.ofNat (nat_lit 52)), (.int (.ofNat (nat_lit 52)) (nat_lit 1109))), ((.ofNat (nat_lit 53)), (.int (.ofNat (nat_lit 53)) (nat_lit 1111))), ((.ofNat (nat_lit 54)), (.int (.ofNat (nat_lit 54)) (nat_lit 1113))), ((.ofNat (nat_lit 55)), (.int (.ofNat (nat_lit 55)) (nat_lit 1115))), ((.ofNat (nat_lit 56)), (.int (.ofNat (nat_lit 56)) (nat_lit 1117))), ((.ofNat (nat_lit 57)), (.int (.ofNat (nat_lit 57)) (nat_lit 1119))), ((.ofNat (nat_lit 65)), (.int (.ofNat (nat_lit 65)) (nat_lit 1121))), ((.ofNat (nat_lit 66)), (.int (.ofNat (nat_lit 66)) (nat_lit 1123))), ((.ofNat (nat_lit 67)), (.int (.ofNat (nat_lit 67)) (nat_lit 1125))), ((.ofNat (nat_lit 68)), (.int (.ofNat (nat_lit 68)) (nat_lit 1127))), ((.ofNat (nat_lit 69)), (.int (.ofNat (nat_lit 69)) (nat_lit 1129))), ((.ofNat (nat_lit 70)), (.int (.ofNat (nat_lit 70)) (nat_lit 1131))), ((.ofNat (nat_lit 71)), (.int (.ofNat (nat_lit 71)) (nat_lit 1133)))]) (nat_lit 21) (.mk (nat_lit 127) (Array.mk [(nat_lit 46), (nat_lit 47), (nat_lit 48), (nat_lit 49), (nat_lit 50), (nat_lit 51), (nat_lit 52), (nat_lit 53), (nat_lit 54), (nat_lit 55), (nat_lit 56), (nat_lit 57), (nat_lit 65), (nat_lit 66), (nat_lit 67), (nat_lit 68), (nat_lit 69), (nat_lit 70), (nat_lit 71)]) (Array.mk []) (nat_lit 0) (!P.followText "set-order") (nat_lit 2) true)) (Array.mk []))
noncomputable def bO7_654 (P : Params) : Obj := (.mk (.type "bytes_iterator") .none (.fields (Array.mk [(.bytes BTS (nat_lit 1092)), (.int (.ofNat (nat_lit 19)) (nat_lit 0))])) (Array.mk []))
noncomputable def bT7 (P : Params) : BT := (BT.ins (BT.ins (bT6 P) (nat_lit 653) (bO7_653 P)) (nat_lit 654) (bO7_654 P))
noncomputable def bS7 (w : World) (os : OsState) : SharedT := ⟨bT7 w.params, nat_lit 655, {}, Array.mk [.finished], {}, nat_lit 1135, os⟩
noncomputable def bO8_653 (P : Params) : Obj := (.mk (.type "set") .none (.set (Array.mk [((.ofNat (nat_lit 46)), (.int (.ofNat (nat_lit 46)) (nat_lit 1097))), ((.ofNat (nat_lit 47)), (.int (.ofNat (nat_lit 47)) (nat_lit 1099))), ((.ofNat (nat_lit 48)), (.int (.ofNat (nat_lit 48)) (nat_lit 1101))), ((.ofNat (nat_lit 49)), (.int (.ofNat (nat_lit 49)) (nat_lit 1103))), ((.ofNat (nat_lit 50)), (.int (.ofNat (nat_lit 50)) (nat_lit 1105))), ((.ofNat (nat_lit 51)), (.int (.ofNat (nat_lit 51)) (nat_lit 1107))), ((.ofNat (nat_lit 52)), (.int (.ofNat (nat_lit 52)) (nat_lit 1109))), ((.ofNat (nat_lit 53)), (.int (.ofNat (nat_lit 53)) (nat_lit 1111))), ((.ofNat (nat_lit 54)), (.int (.ofNat (nat_lit 54)) (nat_lit 1113))), ((.ofNat (nat_lit 55)), (.int (.ofNat (nat_lit 55)) (nat_lit 1115))), ((.ofNat (nat_lit 56)), (.int (.ofNat (nat_lit 56)) (nat_lit 1117))), ((.ofNat (nat_lit 57)), (.int (.ofNat (nat_lit 57)) (nat_lit 1119))), ((.ofNat (nat_lit 65)), (.int (.ofNat (nat_lit 65)) (nat_lit 1121))), ((.ofNat (nat_lit 66)), (.int (.ofNat (nat_lit 66)) (nat_lit 1123))), ((.ofNat (nat_lit 67)), (.int (.ofNat (nat_lit 67)) (nat_lit 1125))), ((.ofNat (nat_lit 68)), (.int (.ofNat (nat_lit 68)) (nat_lit 1127))), ((.ofNat (nat_lit 69)), (.int (.ofNat (nat_lit 69)) (nat_lit 1129))), ((.ofNat (nat_lit 70)), (.int (.ofNat (nat_lit 70)) (nat_lit 1131))), ((.ofNat (nat_lit 71)), (.int (.ofNat (nat_lit 71)) (nat_lit 1133))), ((.ofNat (nat_lit 72)), (.int (.ofNat (nat_lit 72)) (nat_lit 1135))), ((.ofNat (nat_lit 73)), (.int (.ofNat (nat_lit 73)) (nat_lit 1137))), ((.ofNat (nat_lit 74)), (.int (.ofNat (nat_lit 74)) (nat_lit 1139)))]) (nat_lit 24) (.mk (nat_lit 127) (Array.mk [(nat_lit 46), (nat_lit 47), (nat_lit 48), (nat_lit 49), (nat_lit 50), (nat_lit 51), (nat_lit 52), (nat_lit 53), (nat_lit 54), (nat_lit 55), (nat_lit 56), (nat_lit 57), (nat_lit 65), (nat_lit 66), (nat_lit 67), (nat_lit 68), (nat_lit 69), (nat_lit 70), (nat_lit 71), (nat_lit 72), (nat_lit 73), (nat_lit 74)]) (Array.mk []) (nat_lit 0) (!P.followText "set-order") (nat_lit 2) true)) (Array.mk []))
noncomputable def bO8_654 (P : Params) : Obj := (.mk (.type "bytes_iterator") .none (.fields (Array.mk [(.bytes BTS (nat_lit 1092)), (.int (.ofNat (nat_lit 22)) (nat_lit 0))])) (Array.mk []))
noncomputable def bT8 (P : Params) : BT := (BT.ins (BT.ins (bT7 P) (nat_lit 653) (bO8_653 P)) (nat_lit 654) (bO8_654 P))
noncomputable def bS8 (w : World) (os : OsState) : SharedT := ⟨bT8 w.params, nat_lit 655, {}, Array.mk [.finished], {}, nat_lit 1141, os⟩
noncomputable def bO9_653 (P : Params) : Obj := (.mk (.type "set") .none (.set (Array.mk [((.ofNat (nat_lit 46)), (.int (.ofNat (nat_lit 46)) (nat_lit 1097))), ((.ofNat (nat_lit 47)), (.int (.ofNat (nat_lit 47)) (nat_lit 1099))), ((.ofNat (nat_lit 48)), (.int (.ofNat (nat_lit 48)) (nat_lit 1101))), ((.ofNat (nat_lit 49)), (.int (.ofNat (nat_lit 49)) (nat_lit 1103))), ((.ofNat (nat_lit 50)), (.int (.ofNat (nat_lit 50)) (nat_lit 1105))), ((.ofNat (nat_lit 51)), (.int (.ofNat (nat_lit 51)) (nat_lit 1107))), ((.ofNat (nat_lit 52)), (.int (.ofNat (nat_lit 52)) (nat_lit 1109))), ((.ofNat (nat_lit 53)), (.int (.ofNat (nat_lit 53)) (nat_lit 1111))), ((.ofNat (nat_lit 54)), (.int (.ofNat (nat_lit 54)) (nat_lit 1113))), ((.ofNat (nat_lit 55)), (.int (.ofNat (nat_lit 55)) (nat_lit 1115))), ((.ofNat (nat_lit 56)), (.int (.ofNat (nat_lit 56)) (nat_lit 1117))), ((.ofNat (nat_lit 57)), (.int (.ofNat (nat_lit 57)) (nat_lit 1119))), ((.ofNat (nat_lit 65)), (.int (.ofNat (nat_lit 65)) (nat_lit 1121))), ((.ofNat (nat_lit 66)), (.int (.ofNat (nat_lit 66)) (nat_lit 1123))), ((.ofNat (nat_lit 67)), (.int (.ofNat (nat_lit 67)) (nat_lit 1125))), ((.ofNat (nat_lit 68)), (.int (.ofNat (nat_lit 68)) (nat_lit 1127))), ((.ofNat (nat_lit 69)), (.int (.ofNat (nat_lit 69)) (nat_lit 1129))), ((.ofNat (nat_lit 70)), (.int (.ofNat (nat_lit 70)) (nat_lit 1131))), ((.ofNat (nat_lit 71)), (.int (.ofNat (nat_lit 71)) (nat_lit 1133))), ((.ofNat (nat_lit 72)), (.int (.ofNat (nat_lit 72)) (nat_lit 1135))), ((.ofNat (nat_lit 73)), (.int (.ofNat (nat_lit 73)) (nat_lit 1137))), ((.ofNat (nat_lit 74)), (.int (.ofNat (nat_lit 74)) (nat_lit 1139))), ((.ofNat (nat_lit 75)), (.int (.ofNat (nat_lit 75)) (nat_lit 1141))), ((.ofNat (nat_lit 76)), (.int (.ofNat (nat_lit 76)) (nat_lit 1143))), ((.ofNat (nat_lit 77)), (.int (.ofNat (nat_lit 77)) (nat_lit 1145)))]) (nat_lit 27) (.mk (nat_lit 127) (Array.mk [(nat_lit 46), (nat_lit 47), (nat_lit 48), (nat_lit 49), (nat_lit 50), (nat_lit 51), (nat_lit 52), (nat_lit 53), (nat_lit 54), (nat_lit 55), (nat_lit 56), (nat_lit 57), (nat_lit 65), (nat_lit 66), (nat_lit 67), (nat_lit 68), (nat_lit 69), (nat_lit 70), (nat_lit 71), (nat_lit 72), (nat_lit 73), (nat_lit 74), (nat_lit 75), (nat_lit 76), (nat_lit 77)]) (Array.mk []) (nat_lit 0) (!P.followText "set-order") (nat_lit 2) true)) (Array.mk []))
noncomputable def bO9_654 (P : Params) : Obj := (.mk (.type "bytes_iterator") .none (.fields (Array.mk [(.bytes BTS (nat_lit 1092)), (.int (.ofNat (nat_lit 25)) (nat_lit 0))])) (Array.mk []))
noncomputable def bT9 (P : Params) : BT := (BT.ins (BT.ins (bT8 P) (nat_lit 653) (bO9_653 P)) (nat_lit 654) (bO9_654 P))
noncomputable def bS9 (w : World) (os : OsState) : SharedT := ⟨bT9 w.params, nat_lit 655, {}, Array.mk [.finished], {}, nat_lit 1147, os⟩
noncomputable def bO10_653 (P : Params) : Obj := (.mk (.type "set") .none (.set (Array.mk [((.ofNat (nat_lit 46)), (.int (.ofNat (nat_lit 46)) (nat_lit 1097))), ((.ofNat (nat_lit 47)), (.int (.ofNat (nat_lit 47)) (nat_lit 1099))), ((.ofNat (nat_lit 48)), (.int (.ofNat (nat_lit 48)) (nat_lit 1101))), ((.ofNat (nat_lit 49)), (.int (.ofNat (nat_lit 49)) (nat_lit 1103))), ((.ofNat (nat_lit 50)), (.int (.ofNat (nat_lit 50)) (nat_lit 1105))), ((.ofNat (nat_lit 51)), (.int (.ofNat (nat_lit 51)) (nat_lit 1107))), ((.ofNat (nat_lit 52)), (.int (.ofNat (nat_lit 52)) (nat_lit 1109))), ((.ofNat (nat_lit 53)), (.int (.ofNat (nat_lit 53)) (nat_lit 1111))), ((.ofNat (nat_lit 54)), (.int (.ofNat (nat_lit 54)) (nat_lit 1113))), ((.ofNat (nat_lit 55)), (.int (.ofNat (nat_lit 55)) (nat_lit 1115))), ((.ofNat (nat_lit 56)), (.int (.ofNat (nat_lit 56)) (nat_lit 1117))), ((.ofNat (nat_lit 57)), (.int (.ofNat (nat_lit 57)) (nat_lit 1119))), ((.ofNat (nat_lit 65)), (.int (.ofNat (nat_lit 65)) (nat_lit 1121))), ((.ofNat (nat_lit 66)), (.int (.ofNat (nat_lit 66)) (nat_lit 1123))), ((.ofNat (nat_lit 67)), (.int (.ofNat (nat_lit 67)) (nat_lit 1125))), ((.ofNat (nat_lit 68)), (.int (.ofNat (nat_lit 68)) (nat_lit 1127))), ((.ofNat (nat_lit 69)), (.int (.ofNat (nat_lit 69)) (nat_lit 1129))), ((.ofNat (nat_lit 70)), (.int (.ofNat (nat_lit 70)) (nat_lit 1131))), ((.ofNat (nat_lit 71)), (.int (.ofNat (nat_lit 71)) (nat_lit 1133))), ((.ofNat (nat_lit 72)), (.int (.ofNat (nat_lit 72)) (nat_lit 1135))), ((.ofNat (nat_lit 73)), (.int (.ofNat (nat_lit 73)) (nat_lit 1137))), ((.ofNat (nat_lit 74)), (.int (.ofNat (nat_lit 74)) (nat_lit 1139))), ((.ofNat (nat_lit 75)), (.int (.ofNat (nat_lit 75)) (nat_lit 1141))), ((.ofNat (nat_lit 76)), (.int (.ofNat (nat_lit 76)) (nat_lit 1143))), ((.ofNat (nat_lit 77)), (.int (.ofNat (nat_lit 77)) (nat_lit 1145))), ((.ofNat (nat_lit 78)), (.int (.ofNat (nat_lit 78)) (nat_lit 1147))), ((.ofNat (nat_lit 79)), (.int (.ofNat (nat_lit 79)) (nat_lit 1149))), ((.ofNat (nat_lit 80)), (.int (.ofNat (nat_lit 80)) (nat_lit 1151)))]) (nat_lit 30) (.mk (nat_lit 127) (Array.mk [(nat_lit 46), (nat_lit 47), (nat_lit 48), (nat_lit 49), (nat_lit 50), (nat_lit 51), (nat_lit 52), (nat_lit 53), (nat_lit 54), (nat_lit 55), (nat_lit 56), (nat_lit 57), (nat_lit 65), (nat_lit 66), (nat_lit 67), (nat_lit 68), (nat_lit 69), (nat_lit 70), (nat_lit 71), (nat_lit 72), (nat_lit 73), (nat_lit 74), (nat_lit 75), (nat_lit 76), (nat_lit 77), (nat_lit 78), (nat_lit 79), (nat_lit 80)]) (Array.mk []) (nat_lit 0) (!P.followText "set-order") (nat_lit 2) true)) (Array.mk []))
noncomputable def bO10_654 (P : Params) : Obj := (.mk (.type "bytes_iterator") .none (.fields (Array.mk [(.bytes BTS (nat_lit 1092)), (.int (.ofNat (nat_lit 28)) (nat_lit 0))])) (Array.mk []))
noncomputable def bT10 (P : Params) : BT := (BT.ins (BT.ins (bT9 P) (nat_lit 653) (bO10_653 P)) (nat_lit 654) (bO10_654 P))
noncomputable def bS10 (w : World) (os : OsState) : SharedT := ⟨bT10 w.params, nat_lit 655, {}, Array.mk [.finished], {}, nat_lit 1153, os⟩
noncomputable def bO11_653 (P : Params) : Obj := (.mk (.type "set") .none (.set (Array.mk [((.ofNat (nat_lit 46)), (.int (.ofNat (nat_lit 46)) (nat_lit 1097))), ((.ofNat (nat_lit 47)), (.int (.ofNat (nat_lit 47)) (nat_lit 1099))), ((.ofNat (nat_lit 48)), (.int (.ofNat (nat_lit 48)) (nat_lit 1101))), ((.ofNat (nat_lit 49)), (.int (.ofNat (nat_lit 49)) (nat_lit 1103))), ((.ofNat (nat_lit 50)), (.int (.ofNat (nat_lit 50)) (nat_lit 1105))), ((.ofNat (nat_lit 51)), (.int (.ofNat (nat_lit 51)) (nat_lit 1107))), ((.ofNat (nat_lit 52)), (.int (.ofNat (nat_lit 52)) (nat_lit 1109))), ((.ofNat (nat_lit 53)), (.int (.ofNat (nat_lit 53)) (nat_lit 1111))), ((.ofNat (nat_lit 54)), (.int (.ofNat (nat_lit 54)) (nat_lit 1113))), ((.ofNat (nat_lit 55)), (.int (.ofNat (nat_lit 55)) (nat_lit 1115))), ((.ofNat (nat_lit 56)), (.int (.ofNat (nat_lit 56)) (nat_lit 1117))), ((.ofNat (nat_lit 57)), (.int (.ofNat (nat_lit 57)) (nat_lit 1119))), ((.ofNat (nat_lit 65)), (.int (.ofNat (nat_lit 65)) (nat_lit 1121))), ((.ofNat (nat_lit 66)), (.int (.ofNat (nat_lit 66)) (nat_lit 1123))), ((.ofNat (nat_lit 67)), (.int (.ofNat (nat_lit 67)) (nat_lit 1125))), ((.ofNat (nat_lit 68)), (.int (.ofNat (nat_lit 68)) (nat_lit 1127))), ((.ofNat (nat_lit 69)), (.int (.ofNat (nat_lit 69)) (nat_lit 1129))), ((.ofNat (nat_lit 70)), (.int (.ofNat (nat_lit 70)) (nat_lit 1131))), ((.ofNat (nat_lit 71)), (.int (.ofNat (nat_lit 71)) (nat_lit 1133))), ((.ofNat (nat_lit 72)), (.int (.ofNat (nat_lit 72)) (nat_lit 1135))), ((.ofNat (nat_lit 73)), (.int (.ofNat (nat_lit 73)) (nat_lit 1137))), ((.ofNat (nat_lit 74)), (.int (.ofNat (nat_lit 74)) (nat_lit 1139))), ((.ofNat (nat_lit 75)), (.int (.ofNat (nat_lit 75)) (nat_lit 1141))), ((.ofNat (nat_lit 76)), (.int (.ofNat (nat_lit 76)) (nat_lit 1143))), ((.ofNat (nat_lit 77)), (.int (.ofNat (nat_lit 77)) (nat_lit 1145))), ((.ofNat (nat_lit 78)), (.int (.ofNat (nat_lit 78)) (nat_lit 1147))), ((.ofNat (nat_lit 79)), (.int (.ofNat (nat_lit 79)) (nat_lit 1149))), ((.ofNat (nat_lit 80)), (.int (.ofNat (nat_lit 80)) (nat_lit 1151))), ((.ofNat (nat_lit 81)), (.int (.ofNat (nat_lit 81)) (nat_lit 1153))), ((.ofNat (nat_lit 82)), (.int (.ofNat (nat_lit 82)) (nat_lit 1155))), ((.ofNat (nat_lit 83)), (.int (.ofNat (nat_lit 83)) (nat_lit 1157)))]) (nat_lit 33) (.mk (nat_lit 127) (Array.mk [(nat_lit 46), (nat_lit 47), (nat_lit 48), (nat_lit 49), (nat_lit 50), (nat_lit 51), (nat_lit 52), (nat_lit 53), (nat_lit 54), (nat_lit 55), (nat_lit 56), (nat_lit 57), (nat_lit 65), (nat_lit 66), (nat_lit 67), (nat_lit 68), (nat_lit 69), (nat_lit 70), (nat_lit 71), (nat_lit 72), (nat_lit 73), (nat_lit 74), (nat_lit 75), (nat_lit 76), (nat_lit 77), (nat_lit 78), (nat_lit 79), (nat_lit 80), (nat_lit 81), (nat_lit 82), (nat_lit 83)]) (Array.mk []) (nat_lit 0) (!P.followText "set-order") (nat_lit 2) true)) (Array.mk []))
noncomputable def bO11_654 (P : Params) : Obj := (.mk (.type "bytes_iterator") .none (.fields (Array.mk [(.bytes BTS (nat_lit 1092)), (.int (.ofNat (nat_lit 31)) (nat_lit 0))])) (Array.mk []))
noncomputable def bT11 (P : Params) : BT := (BT.ins (BT.ins (bT10 P) (nat_lit 653) (bO11_653 P)) (nat_lit 654) (bO11_654 P))
noncomputable def bS11 (w : World) (os : OsState) : SharedT := ⟨bT11 w.params, nat_lit 655, {}, Array.mk [.finished], {}, nat_lit 1159, os⟩
noncomputable def bO12_653 (P : Params) : Obj := (.mk (.type "set") .none (.set (Array.mk [((.ofNat (nat_lit 46)), (.int (.ofNat (nat_lit 46)) (nat_lit 1097))), ((.ofNat (nat_lit 47)), (.int (.ofNat (nat_lit 47)) (nat_lit 1099))), ((.ofNat (nat_lit 48)), (.int (.ofNat (nat_lit 48)) (nat_lit 1101))), ((.ofNat (nat_lit 49)), (.int (.ofNat (nat_lit 49)) (nat_lit 1103))), ((.ofNat (nat_lit 50)), (.int (.ofNat (nat_lit 50)) (nat_lit 1105))), ((.ofNat (nat_lit 51)), (.int (.ofNat (nat_lit 51)) (nat_lit 1107))), ((.ofNat (nat_lit 52)), (.int (.ofNat (nat_lit 52)) (nat_lit 1109))), ((.ofNat (nat_lit 53)), (.int (.ofNat (nat_lit 53)) (nat_lit 1111))), ((.ofNat (nat_lit 54)), (.int (.ofNat (nat_lit 54)) (nat_lit 1113))), ((.ofNat (nat_lit 55)), (.int (.ofNat (nat_lit 55)) (nat_lit 1115))), ((.ofNat (nat_lit 56)), (.int (.ofNat (nat_lit 56)) (nat_lit 1117))), ((.ofNat (nat_lit 57)), (.int (.ofNat (nat_lit 57)) (nat_lit 1119))), ((.ofNat (nat_lit 65)), (.int (.ofNat (nat_lit 65)) (nat_lit 1121))), ((.ofNat (nat_lit 66)), (.int (.ofNat (nat_lit 66)) (nat_lit 1123))), ((.ofNat (nat_lit 67)), (.int (.ofNat (nat_lit 67)) (nat_lit 1125))), ((.ofNat (nat_lit 68)), (.int (.ofNat (nat_lit 68)) (nat_lit 1127))), ((.ofNat (nat_lit 69)), (.int (.ofNat (nat_lit 69)) (nat_lit 1129))), ((.ofNat (nat_lit 70)), (.int (.ofNat (nat_lit 70)) (nat_lit 1131))), ((.ofNat (nat_lit 71)), (.int (.ofNat (nat_lit 71)) (nat_lit 1133))), ((.ofNat (nat_lit 72)), (.int (.ofNat (nat_lit 72)) (nat_lit 1135))), ((.ofNat (nat_lit 73)), (.int (.ofNat (nat_lit 73)) (nat_lit 1137))), ((.ofNat (nat_lit 74)), (.int (.ofNat (nat_lit 74)) (nat_lit 1139))), ((.ofNat (nat_lit 75)), (.int (.ofNat (nat_lit 75)) (nat_lit 1141))), ((.ofNat (nat_lit 76)), (.int (.ofNat (nat_lit 76)) (nat_lit 1143))), ((.ofNat (nat_lit 77)), (.int (.ofNat (nat_lit 77)) (nat_lit 1145))), ((.ofNat (nat_lit 78)), (.int (.ofNat (nat_lit 78)) (nat_lit 1147))), ((.ofNat (nat_lit 79)), (.int (.ofNat (nat_lit 79)) (nat_lit 1149))), ((.ofNat (nat_lit 80)), (.int (.ofNat (nat_lit 80)) (nat_lit 1151))), ((.ofNat (nat_lit 81)), (.int (.ofNat (nat_lit 81)) (nat_lit 1153))), ((.ofNat (nat_lit 82)), (.int (.ofNat (nat_lit 82)) (nat_lit 1155))), ((.ofNat (nat_lit 83)), (.int (.ofNat (nat_lit 83)) (nat_lit 1157))), ((.ofNat (nat_lit 84)), (.int (.ofNat (nat_lit 84)) (nat_lit 1159))), ((.ofNat (nat_lit 85)), (.int (.ofNat (nat_lit 85)) (nat_lit 1161))), ((.ofNat (nat_lit 86)), (.int (.ofNat (nat_lit 86)) (nat_lit 1163)))]) (nat_lit 36) (.mk (nat_lit 127) (Array.mk [(nat_lit 46), (nat_lit 47), (nat_lit 48), (nat_lit 49), (nat_lit 50), (nat_lit 51), (nat_lit 52), (nat_lit 53), (nat_lit 54), (nat_lit 55), (nat_lit 56), (nat_lit 57), (nat_lit 65), (nat_lit 66), (nat_lit 67), (nat_lit 68), (nat_lit 69), (nat_lit 70), (nat_lit 71), (nat_lit 72), (nat_lit 73), (nat_lit 74), (nat_lit 75), (nat_lit 76), (nat_lit 77), (nat_lit 78), (nat_lit 79), (nat_lit 80), (nat_lit 81), (nat_lit 82), (nat_lit 83), (nat_lit 84), (nat_lit 85), (nat_lit 86)]) (Array.mk []) (nat_lit 0) (!P.followText "set-order") (nat_lit 2) true)) (Array.mk []))
noncomputable def bO12_654 (P : Params) : Obj := (.mk (.type "bytes_iterator") .none (.fields (Array.mk [(.bytes BTS (nat_lit 1092)), (.int (.ofNat (nat_lit 34)) (nat_lit 0))])) (Array.mk []))
noncomputable def bT12 (P : Params) : BT := (BT.ins (BT.ins (bT11 P) (nat_lit 653) (bO12_653 P)) (nat_lit 654) (bO12_654 P))
noncomputable def bS12 (w : World) (os : OsState) : SharedT := ⟨bT12 w.params, nat_lit 655, {}, Array.mk [.finished], {}, nat_lit 1165, os⟩
noncomputable def bO13_653 (P : Params) : Obj := (.mk (.type "set") .none (.set (Array.mk [((.ofNat (nat_lit 46)), (.int (.ofNat (nat_lit 46)) (nat_lit 1097))), ((.ofNat (nat_lit 47)), (.int (.ofNat (nat_lit 47)) (nat_lit 1099))), ((.ofNat (nat_lit 48)), (.int (.ofNat (nat_lit 48)) (nat_lit 1101))), ((.ofNat (nat_lit 49)), (.int (.ofNat (nat_lit 49)) (nat_lit 1103))), ((.ofNat (nat_lit 50)), (.int (.ofNat (nat_lit 50)) (nat_lit 1105))), ((.ofNat (nat_lit 51)), (.int (.ofNat (nat_lit 51)) (nat_lit 1107))), ((.ofNat (nat_lit 52)), (.int (.ofNat (nat_lit 52)) (nat_lit 1109))), ((.ofNat (nat_lit 53)), (.int (.ofNat (nat_lit 53)) (nat_lit 1111))), ((.ofNat (nat_lit 54)), (.int (.ofNat (nat_lit 54)) (nat_lit 1113))), ((.ofNat (nat_lit 55)), (.int (.ofNat (nat_lit 55)) (nat_lit 1115))), ((.ofNat (nat_lit 56)), (.int (.ofNat (nat_lit 56)) (nat_lit 1117))), ((.ofNat (nat_lit 57)), (.int (.ofNat (nat_lit 57)) (nat_lit 1119))), ((.ofNat (nat_lit 65)), (.int (.ofNat (nat_lit 65)) (nat_lit 1121))), ((.ofNat (nat_lit 66)), (.int (.ofNat (nat_lit 66)) (nat_lit 1123))), ((.ofNat (nat_lit 67)), (.int (.ofNat (nat_lit 67)) (nat_lit 1125))), ((.ofNat (nat_lit 68)), (.int (.ofNat (nat_lit 68)) (nat_lit 1127))), ((.ofNat (nat_lit 69)), (.int (.ofNat (nat_lit 69)) (nat_lit 1129))), ((.ofNat (nat_lit 70)), (.int (.ofNat (nat_lit 70)) (nat_lit 1131))), ((.ofNat (nat_lit 71)), (.int (.ofNat (nat_lit 71)) (nat_lit 1133))), ((.ofNat (nat_lit 72)), (.int (.ofNat (nat_lit 72)) (nat_lit 1135))), ((.ofNat (nat_lit 73)), (.int (.ofNat (nat_lit 73)) (nat_lit 1137))), ((.ofNat (nat_lit 74)), (.int (.ofNat (nat_lit 74)) (nat_lit 1139))), ((.ofNat (nat_lit 75)), (.int (.ofNat (nat_lit 75)) (nat_lit 1141))), ((.ofNat (nat_lit 76)), (.int (.ofNat (nat_lit 76)) (nat_lit 1143))), ((.ofNat (nat_lit 77)), (.int (.ofNat (nat_lit 77)) (nat_lit 1145))), ((.ofNat (nat_lit 78)), (.int (.ofNat (nat_lit 78)) (nat_lit 1147))), ((.ofNat (nat_lit 79)), (.int (.ofNat (nat_lit 79)) (nat_lit 1149))), ((.ofNat (nat_lit 80)), (.int (.ofNat (nat_lit 80)) (nat_lit 1151))), ((.ofNat (nat_lit 81)), (.int (.ofNat (nat_lit 81)) (nat_lit 1153))), ((.ofNat (nat_lit 82)), (.int (.ofNat (nat_lit 82)) (nat_lit 1155))), ((.ofNat (nat_lit 83)), (.int (.ofNat (nat_lit 83)) (nat_lit 1157))), ((.ofNat (nat_lit 84)), (.int (.ofNat (nat_lit 84)) (nat_lit 1159))), ((.ofNat (nat_lit 85)), (.int (.ofNat (nat_lit 85)) (nat_lit 1161))), ((.ofNat (nat_lit 86)), (.int (.ofNat (nat_lit 86)) (nat_lit 1163))), ((.ofNat (nat_lit 87)), (.int (.ofNat (nat_lit 87)) (nat_lit 1165))), ((.ofNat (nat_lit 88)), (.int (.ofNat (nat_lit 88)) (nat_lit 1167))), ((.ofNat (nat_lit 89)), (.int (.ofNat (nat_lit 89)) (nat_lit 1169)))]) (nat_lit 39) (.mk (nat_lit 127) (Array.mk [(nat_lit 46), (nat_lit 47), (nat_lit 48), (nat_lit 49), (nat_lit 50), (nat_lit 51), (nat_lit 52), (nat_lit 53), (nat_lit 54), (nat_lit 55), (nat_lit 56), (nat_lit 57), (nat_lit 65), (nat_lit 66), (nat_lit 67), (nat_lit 68), (nat_lit 69), (nat_lit 70), (nat_lit 71), (nat_lit 72), (nat_lit 73), (nat_lit 74), (nat_lit 75), (nat_lit 76), (nat_lit 77), (nat_lit 78), (nat_lit 79), (nat_lit 80), (nat_lit 81), (nat_lit 82), (nat_lit 83), (nat_lit 84), (nat_lit 85), (nat_lit 86), (nat_lit 87), (nat_lit 88), (nat_lit 89)]) (Array.mk []) (nat_lit 0) (!P.followText "set-order") (nat_lit 2) true)) (Array.mk []))
noncomputable def bO13_654 (P : Params) : Obj := (.mk (.type "bytes_iterator") .none (.fields (Array.mk [(.bytes BTS (nat_lit 1092)), (.int (.ofNat (nat_lit 37)) (nat_lit 0))])) (Array.mk []))
noncomputable def bT13 (P : Params) : BT := (BT.ins (BT.ins (bT12 P) (nat_lit 653) (bO13_653 P)) (nat_lit 654) (bO13_654 P))
noncomputable def bS13 (w : World) (os : OsState) : SharedT := ⟨bT13 w.params, nat_lit 655, {}, Array.mk [.finished], {}, nat_lit 1171, os⟩
noncomputable def bO14_653 (P : Params) : Obj := (.mk (.type "set") .none (.set (Array.mk [((.ofNat (nat_lit 46)), (.int (.ofNat (nat_lit 46)) (nat_lit 1097))), ((.ofNat (nat_lit 47)), (.int (.ofNat (nat_lit 47)) (nat_lit 1099))), ((.ofNat (nat_lit 48)), (.int (.ofNat (nat_lit 48)) (nat_lit 1101))), ((.ofNat (nat_lit 49)), (.int (.ofNat (nat_lit 49)) (nat_lit 1103))), ((.ofNat (nat_lit 50)), (.int (.ofNat (nat_lit 50)) (nat_lit 1105))), ((.ofNat (nat_lit 51)), (.int (.ofNat (nat_lit 51)) (nat_lit 1107))), ((.ofNat (nat_lit 52)), (.int (.ofNat (nat_lit 52)) (nat_lit 1109))), ((.ofNat (nat_lit 53)), (.int (.ofNat (nat_lit 53)) (nat_lit 1111))), ((.ofNat (nat_lit 54)), (.int (.ofNat (nat_lit 54)) (nat_lit 1113))), ((.ofNat (nat_lit 55)), (.int (.ofNat (nat_lit 55)) (nat_lit 1115))), ((.ofNat (nat_lit 56)), (.int (.ofNat (nat_lit 56)) (nat_lit 1117))), ((.ofNat (nat_lit 57)), (.int (.ofNat (nat_lit 57)) (nat_lit 1119))), ((.ofNat (nat_lit 65)), (.int (.ofNat (nat_lit 65)) (nat_lit 1121))), ((.ofNat (nat_lit 66)), (.int (.ofNat (nat_lit 66)) (nat_lit 1123))), ((.ofNat (nat_lit 67)), (.int (.ofNat (nat_lit 67)) (nat_lit 1125))), ((.ofNat (nat_lit 68)), (.int (.ofNat (nat_lit 68)) (nat_lit 1127))), ((.ofNat (nat_lit 69)), (.int (.ofNat (nat_lit 69)) (nat_lit 1129))), ((.ofNat (nat_lit 70)), (.int (.ofNat (nat_lit 70)) (nat_lit 1131))), ((.ofNat (nat_lit 71)), (.int (.ofNat (nat_lit 71)) (nat_lit 1133))), ((.ofNat (nat_lit 72)), (.int (.ofNat (nat_lit 72)) (nat_lit 1135))), ((.ofNat (nat_lit 73)), (.int (.ofNat (nat_lit 73)) (nat_lit 1137))), ((.ofNat (nat_lit 74)), (.int (.ofNat (nat_lit 74)) (nat_lit 1139))), ((.ofNat (nat_lit 75)), (.int (.ofNat (nat_lit 75)) (nat_lit 1141))), ((.ofNat (nat_lit 76)), (.int (.ofNat (nat_lit 76)) (nat_lit 1143))), ((.ofNat (nat_lit 77)), (.int (.ofNat (nat_lit 77)) (nat_lit 1145))), ((.ofNat (nat_lit 78)), (.int (.ofNat (nat_lit 78)) (nat_lit 1147))), ((.ofNat (nat_lit 79)), (.int (.ofNat (nat_lit 79)) (nat_lit 1149))), ((.ofNat (nat_lit 80)), (.int (.ofNat (nat_lit 80)) (nat_lit 1151))), ((.ofNat (nat_lit 81)), (.int (.ofNat (nat_lit 81)) (nat_lit 1153))), ((.ofNat (nat_lit 82)), (.int (.ofNat (nat_lit 82)) (nat_lit 1155))), ((.ofNat (nat_lit 83)), (.int (.ofNat (nat_lit 83)) (nat_lit 1157))), ((.ofNat (nat_lit 84)), (.int (.ofNat (nat_lit 84)) (nat_lit 1159))), ((.ofNat (nat_lit 85)), (.int (.ofNat (nat_lit 85)) (nat_lit 1161))), ((.ofNat (nat_lit 86)), (.int (.ofNat (nat_lit 86)) (nat_lit 1163))), ((.ofNat (nat_lit 87)), (.int (.ofNat (nat_lit 87)) (nat_lit 1165))), ((.ofNat (nat_lit 88)), (.int (.ofNat (nat_lit 88)) (nat_lit 1167))), ((.ofNat (nat_lit 89)), (.int (.ofNat (nat_lit 89)) (nat_lit 1169))), ((.ofNat (nat_lit 90)), (.int (.ofNat (nat_lit 90)) (nat_lit 1171))), ((.ofNat (nat_lit 97)), (.int (.ofNat (nat_lit 97)) (nat_lit 1173))), ((.ofNat (nat_lit 98)), (.int (.ofNat (nat_lit 98)) (nat_lit 1175)))]) (nat_lit 42) (.mk (nat_lit 127) (Array.mk [(nat_lit 46), (nat_lit 47), (nat_lit 48), (nat_lit 49), (nat_lit 50), (nat_lit 51), (nat_lit 52), (nat_lit 53), (nat_lit 54), (nat_lit 55), (nat_lit 56), (nat_lit 57), (nat_lit 65), (nat_lit 66), (nat_lit 67), (nat_lit 68), (nat_lit 69), (nat_lit 70), (nat_lit 71), (nat_lit 72), (nat_lit 73), (nat_lit 74), (nat_lit 75), (nat_lit 76), (nat_lit 77), (nat_lit 78), (nat_lit 79), (nat_lit 80), (nat_lit 81), (nat_lit 82), (nat_lit 83), (nat_lit 84), (nat_lit 85), (nat_lit 86), (nat_lit 87), (nat_lit 88), (nat_lit 89), (nat_lit 90), (nat_lit 97), (nat_lit 98)]) (Array.mk []) (nat_lit 0) (!P.followText "set-order") (nat_lit 2) true)) (Array.mk []))
noncomputable def bO14_654 (P : Params) : Obj := (.mk (.type "bytes_iterator") .none (.fields (Array.mk [(.bytes BTS (nat_lit 1092)), (.int (.ofNat (nat_lit 40)) (nat_lit 0))])) (Array.mk []))
noncomputable def bT14 (P : Params) : BT := (BT.ins (BT.ins (bT13 P) (nat_lit 653) (bO14_653 P)) (nat_lit 654) (bO14_654 P))
noncomputable def bS14 (w : World) (os : OsState) : SharedT := ⟨bT14 w.params, nat_lit 655, {}, Array.mk [.finished], {}, nat_lit 1177, os⟩
noncomputable def bO15_653 (P : Params) : Obj := (.mk (.type "set") .none (.set (Array.mk [((.ofNat (nat_lit 46)), (.int (.ofNat (nat_lit 46)) (nat_lit 1097))), ((.ofNat (nat_lit 47)), (.int (.ofNat (nat_lit 47)) (nat_lit 1099))), ((.ofNat (nat_lit 48)), (.int (.ofNat (nat_lit 48)) (nat_lit 1101))), ((.ofNat (nat_lit 49)), (.int (.ofNat (nat_lit 49)) (nat_lit 1103))), ((.ofNat (nat_lit 50)), (.int (.ofNat (nat_lit 50)) (nat_lit 1105))), ((.ofNat (nat_lit 51)), (.int (.ofNat (nat_lit 51)) (nat_lit 1107))), ((.ofNat (nat_lit 52)), (.int (.ofNat (nat_lit 52)) (nat_lit 1109))), ((.ofNat (nat_lit 53)), (.int (.ofNat (nat_lit 53)) (nat_lit 1111))), ((.ofNat (nat_lit 54)), (.int (.ofNat (nat_lit 54)) (nat_lit 1113))), ((.ofNat (nat_lit 55)), (.int (.ofNat (nat_lit 55)) (nat_lit 1115))), ((.ofNat (nat_lit 56)), (.int (.ofNat (nat_lit 56)) (nat_lit 1117))), ((.ofNat (nat_lit 57)), (.int (.ofNat (nat_lit 57)) (nat_lit 1119))), ((.ofNat (nat_lit 65)), (.int (.ofNat (nat_lit 65)) (nat_lit 1121))), ((.ofNat (nat_lit 66)), (.int (.ofNat (nat_lit 66)) (nat_lit 1123))), ((.ofNat (nat_lit 67)), (.int (.ofNat (nat_lit 67)) (nat_lit 1125))), ((.ofNat (nat_lit 68)), (.int (.ofNat (nat_lit 68)) (nat_lit 1127))), ((.ofNat (nat_lit 69)), (.int (.ofNat (nat_lit 69)) (nat_lit 1129))), ((.ofNat (nat_lit 70)), (.int (.ofNat (nat_lit 70)) (nat_lit 1131))), ((.ofNat (nat_lit 71)), (.int (.ofNat (nat_lit 71)) (nat_lit 1133))), ((.ofNat (nat_lit 72)), (.int (.ofNat (nat_lit 72)) (nat_lit 1135))), ((.ofNat (nat_lit 73)), (.int (.ofNat (nat_lit 73)) (nat_lit 1137))), ((.ofNat (nat_lit 74)), (.int (.ofNat (nat_lit 74)) (nat_lit 1139))), ((.ofNat (nat_lit 75)), (.int (.ofNat (nat_lit 75)) (nat_lit 1141))), ((.ofNat (nat_lit 76)), (.int (.ofNat (nat_lit 76)) (nat_lit 1143))), ((.ofNat (nat_lit 77)), (.int (.ofNat (nat_lit 77)) (nat_lit 1145))), ((.ofNat (nat_lit 78)), (.int (.ofNat (nat_lit 78)) (nat_lit 1147))), ((.ofNat (nat_lit 79)), (.int (.ofNat (nat_lit 79)) (nat_lit 1149))), ((.ofNat (nat_lit 80)), (.int (.ofNat (nat_lit 80)) (nat_lit 1151))), ((.ofNat (nat_lit 81)), (.int (.ofNat (nat_lit 81)) (nat_lit 1153))), ((.ofNat (nat_lit 82)), (.int (.ofNat (nat_lit 82)) (nat_lit 1155))), ((.ofNat (nat_lit 83)), (.int (.ofNat (nat_lit 83)) (nat_lit 1157))), ((.ofNat (nat_lit 84)), (.int (.ofNat (nat_lit 84)) (nat_lit 1159))), ((.ofNat (nat_lit 85)), (.int (.ofNat (nat_lit 85)) (nat_lit 1161))), ((.ofNat (nat_lit 86)), (.int (.ofNat (nat_lit 86)) (nat_lit 1163))), ((.ofNat (nat_lit 87)), (.int (.ofNat (nat_lit 87)) (nat_lit 1165))), ((.ofNat (nat_lit 88)), (.int (.ofNat (nat_lit 88)) (nat_lit 1167))), ((.ofNat (nat_lit 89)), (.int (.ofNat (nat_lit 89)) (nat_lit 1169))), ((.ofNat (nat_lit 90)), (.int (.ofNat (nat_lit 90)) (nat_lit 1171))), ((.ofNat (nat_lit 97)), (.int (.ofNat (nat_lit 97)) (nat_lit 1173))), ((.ofNat (nat_lit 98)), (.int (.ofNat (nat_lit 98)) (nat_lit 1175))), ((.ofNat (nat_lit 99)), (.int (.ofNat (nat_lit 99)) (nat_lit 1177))), ((.ofNat (nat_lit 100)), (.int (.ofNat (nat_lit 100)) (nat_lit 1179))), ((.ofNat (nat_lit 101)), (.int (.ofNat (nat_lit 101)) (nat_lit 1181)))]) (nat_lit 45) (.mk (nat_lit 127) (Array.mk [(nat_lit 46), (nat_lit 47), (nat_lit 48), (nat_lit 49), (nat_lit 50), (nat_lit 51), (nat_lit 52), (nat_lit 53), (nat_lit 54), (nat_lit 55), (nat_lit 56), (nat_lit 57), (nat_lit 65), (nat_lit 66), (nat_lit 67), (nat_lit 68), (nat_lit 69), (nat_lit 70), (nat_lit 71), (nat_lit 72), (nat_lit 73), (nat_lit 74), (nat_lit 75), (nat_lit 76), (nat_lit 77), (nat_lit 78), (nat_lit 79), (nat_lit 80), (nat_lit 81), (nat_lit 82), (nat_lit 83), (nat_lit 84), (nat_lit 85), (nat_lit 86), (nat_lit 87), (nat_lit 88), (nat_lit 89), (nat_lit 90), (nat_lit 97), (nat_lit 98), (nat_lit 99), (nat_lit 100), (nat_lit 101)]) (Array.mk []) (nat_lit 0) (!P.followText "set-order") (nat_lit 2) true)) (Array.mk []))
noncomputable def bO15_654 (P : Params) : Obj := (.mk (.type "bytes_iterator") .none (.fields (Array.mk [(.bytes BTS (nat_lit 1092)), (.int (.ofNat (nat_lit 43)) (nat_lit 0))])) (Array.mk []))
noncomputable def bT15 (P : Params) : BT := (BT.ins (BT.ins (bT14 P) (nat_lit 653) (bO15_653 P)) (nat_lit 654) (bO15_654 P))
noncomputable def bS15 (w : World) (os : OsState) : SharedT := ⟨bT15 w.params, nat_lit 655, {}, Array.mk [.finished], {}, nat_lit 1183, os⟩
noncomputable def bO16_653 (P : Params) : Obj := (.mk (.type "set") .none (.set (Array.mk [((.ofNat (nat_lit 46)), (.int (.ofNat (nat_lit 46)) (nat_lit 1097))), ((.ofNat (nat_lit 47)), (.int (.ofNat (nat_lit 47)) (nat_lit 1099))), ((.ofNat (nat_lit 48)), (.int (.ofNat (nat_lit 48)) (nat_lit 1101))), ((.ofNat (nat_lit 49)), (.int (.ofNat (nat_lit 49)) (nat_lit 1103))), ((.ofNat (nat_lit 50)), (.int (.ofNat (nat_lit 50)) (nat_lit 1105))), ((.ofNat (nat_lit 51)), (.int (.ofNat (nat_lit 51)) (nat_lit 1107))), ((.ofNat (nat_lit 52)), (.int (.ofNat (nat_lit 52)) (nat_lit 1109))), ((.ofNat (nat_lit 53)), (.int (.ofNat (nat_lit 53)) (nat_lit 1111))), ((.ofNat (nat_lit 54)), (.int (.ofNat (nat_lit 54)) (nat_lit 1113))), ((.ofNat (nat_lit 55)), (.int (.ofNat (nat_lit 55)) (nat_lit 1115))), ((.ofNat (nat_lit 56)), (.int (.ofNat (nat_lit 56)) (nat_lit 1117))), ((.ofNat (nat_lit 57)), (.int (.ofNat (nat_lit 57)) (nat_lit 1119))), ((.ofNat (nat_lit 65)), (.int (.ofNat (nat_lit 65)) (nat_lit 1121))), ((.ofNat (nat_lit 66)), (.int (.ofNat (nat_lit 66)) (nat_lit 1123))), ((.ofNat (nat_lit 67)), (.int (.ofNat (nat_lit 67)) (nat_lit 1125))), ((.ofNat (nat_lit 68)), (.int (.ofNat (nat_lit 68)) (nat_lit 1127))), ((.ofNat (nat_lit 69)), (.int (.ofNat (nat_lit 69)) (nat_lit 1129))), ((.ofNat (nat_lit 70)), (.int (.ofNat (nat_lit 70)) (nat_lit 1131))), ((.ofNat (nat_lit 71)), (.int (.ofNat (nat_lit 71)) (nat_lit 1133))), ((.ofNat (nat_lit 72)), (.int (.ofNat (nat_lit 72)) (nat_lit 1135))), ((.ofNat (nat_lit 73)), (.int (.ofNat (nat_lit 73)) (nat_lit 1137))), ((.ofNat (nat_lit 74)), (.int (.ofNat (nat_lit 74)) (nat_lit 1139))), ((.ofNat (nat_lit 75)), (.int (.ofNat (nat_lit 75)) (nat_lit 1141))), ((.ofNat (nat_lit 76)), (.int (.ofNat (nat_lit 76)) (nat_lit 1143))), ((.ofNat (nat_lit 77)), (.int (.ofNat (nat_lit 77)) (nat_lit 1145))), ((.ofNat (nat_lit 78)), (.int (.ofNat (nat_lit 78)) (nat_lit 1147))), ((.ofNat (nat_lit 79)), (.int (.ofNat (nat_lit 79)) (nat_lit 1149))), ((.ofNat (nat_lit 80)), (.int (.ofNat (nat_lit 80)) (nat_lit 1151))), ((.ofNat (nat_lit 81)), (.int (.ofNat (nat_lit 81)) (nat_lit 1153))), ((.ofNat (nat_lit 82)), (.int (.ofNat (nat_lit 82)) (nat_lit 1155))), ((.ofNat (nat_lit 83)), (.int (.ofNat (nat_lit 83)) (nat_lit 1157))), ((.ofNat (nat_lit 84)), (.int (.ofNat (nat_lit 84)) (nat_lit 1159))), ((.ofNat (nat_lit 85)), (.int (.ofNat (nat_lit 85)) (nat_lit 1161))), ((.ofNat (nat_lit 86)), (.int (.ofNat (nat_lit 86)) (nat_lit 1163))), ((.ofNat (nat_lit 87)), (.int (.ofNat (nat_lit 87)) (nat_lit 1165))), ((.ofNat (nat_lit 88)), (.int (.ofNat (nat_lit 88)) (nat_lit 1167))), ((.ofNat (nat_lit 89)), (.int (.ofNat (nat_lit 89)) (nat_lit 1169))), ((.ofNat (nat_lit 90)), (.int (.ofNat (nat_lit 90)) (nat_lit 1171))), ((.ofNat (nat_lit 97)), (.int (.ofNat (nat_lit 97)) (nat_lit 1173))), ((.ofNat (nat_lit 98)), (.int (.ofNat (nat_lit 98)) (nat_lit 1175))), ((.ofNat (nat_lit 99)), (.int (.ofNat (nat_lit 99)) (nat_lit 1177))), ((.ofNat (nat_lit 100)), (.int (.ofNat (nat_lit 100)) (nat_lit 1179))), ((.ofNat (nat_lit 101)), (.int (.ofNat (nat_lit 101)) (nat_lit 1181))), ((.ofNat (nat_lit 102)), (.int (.ofNat (nat_lit 102)) (nat_lit 1183))), ((.ofNat (nat_lit 103)), (.int (.ofNat (nat_lit 103)) (nat_lit 1185))), ((.ofNat (nat_lit 104)), (.int (.ofNat (nat_lit 104)) (nat_lit 1187)))]) (nat_lit 48) (.mk (nat_lit 127) (Array.mk [(nat_lit 46), (nat_lit 47), (nat_lit 48), (nat_lit 49), (nat_lit 50), (nat_lit 51), (nat_lit 52), (nat_lit 53), (nat_lit 54), (nat_lit 55), (nat_lit 56), (nat_lit 57), (nat_lit 65), (nat_lit 66), (nat_lit 67), (nat_lit 68), (nat_lit 69), (nat_lit 70), (nat_lit 71), (nat_lit 72), (nat_lit 73), (nat_lit 74), (nat_lit 75), (nat_lit 76), (nat_lit 77), (nat_lit 78), (nat_lit 79), (nat_lit 80), (nat_lit 81), (nat_lit 82), (nat_lit 83), (nat_lit 84), (nat_lit 85), (nat_lit 86), (nat_lit 87), (nat_lit 88), (nat_lit 89), (nat_lit 90), (nat_lit 97), (nat_lit 98), (nat_lit 99), (nat_lit 100), (nat_lit 101), (nat_lit 102), (nat_lit 103), (nat_lit 104)]) (Array.mk []) (nat_lit 0) (!P.followText "set-order") (nat_lit 2) true)) (Array.mk []))
noncomputable def bO16_654 (P : Params) : Obj := (.mk (.type "bytes_iterator") .none (.fields (Array.mk [(.bytes BTS (nat_lit 1092)), (.int (.ofNat (nat_lit 46)) (nat_lit 0))])) (Array.mk []))
noncomputable def bT16 (P : Params) : BT := (BT.ins (BT.ins (bT15 P) (nat_lit 653) (bO16_653 P)) (nat_lit 654) (bO16_654 P))
noncomputable def bS16 (w : World) (os : OsState) : SharedT := ⟨bT16 w.params, nat_lit 655, {}, Array.mk [.finished], {}, nat_lit 1189, os⟩
noncomputable def bO17_653 (P : Params) : Obj := (.mk (.type "set") .none (.set (Array.mk [((.ofNat (nat_lit 46)), (.int (.ofNat (nat_lit 46)) (nat_lit 1097))), ((.ofNat (nat_lit 47)), (.int (.ofNat (nat_lit 47)) (nat_lit 1099))), ((.ofNat (nat_lit 48)), (.int (.ofNat (nat_lit 48)) (nat_lit 1101))), ((.ofNat (nat_lit 49)), (.int (.ofNat (nat_lit 49)) (nat_lit 1103))), ((.ofNat (nat_lit 50)), (.int (.ofNat (nat_lit 50)) (nat_lit 1105))), ((.ofNat (nat_lit 51)), (.int (.ofNat (nat_lit 51)) (nat_lit 1107))), ((.ofNat (nat_lit 52)), (.int (.ofNat (nat_lit 52)) (nat_lit 1109))), ((.ofNat (nat_lit 53)), (.int (.ofNat (nat_lit 53)) (nat_lit 1111))), ((.ofNat (nat_lit 54)), (.int (.ofNat (nat_lit 54)) (nat_lit 1113))), ((.ofNat (nat_lit 55)), (.int (.ofNat (nat_lit 55)) (nat_lit 1115))), ((.ofNat (nat_lit 56)), (.int (.ofNat (nat_lit 56)) (nat_lit 1117))), ((.ofNat (nat_lit 57)), (.int (.ofNat (nat_lit 57)) (nat_lit 1119))), ((.ofNat (nat_lit 65)), (.int (.ofNat (nat_lit 65)) (nat_lit 1121))), ((.ofNat (nat_lit 66)), (.int (.ofNat (nat_lit 66)) (nat_lit 1123))), ((.ofNat (nat_lit 67)), (.int (.ofNat (nat_lit 67)) (nat_lit 1125))), ((.ofNat (nat_lit 68)), (.int (.ofNat (nat_lit 68)) (nat_lit 1127))), ((.ofNat (nat_lit 69)), (.int (.ofNat (nat_lit 69)) (nat_lit 1129))), ((.ofNat (nat_lit 70)), (.int (.ofNat (nat_lit 70)) (nat_lit 1131))), ((.ofNat (nat_lit 71)), (.int (.ofNat (nat_lit 71)) (nat_lit 1133))), ((.ofNat (nat_lit 72)), (.int (.ofNat (nat_lit 72)) (nat_lit 1135))), ((.ofNat (nat_lit 73)), (.int (.ofNat (nat_lit 73)) (nat_lit 1137))), ((.ofNat (nat_lit 74)), (.int (.ofNat (nat_lit 74)) (nat_lit 1139))), ((.ofNat (nat_lit 75)), (.int (.ofNat (nat_lit 75)) (nat_lit 1141))), ((.ofNat (nat_lit 76)), (.int (.ofNat (nat_lit 76)) (nat_lit 1143))), ((.ofNat (nat_lit 77)), (.int (.ofNat (nat_lit 77)) (nat_lit 1145))), ((.ofNat (nat_lit 78)), (.int (.ofNat (nat_lit 78)) (nat_lit 1147))), ((.ofNat (nat_lit 79)), (.int (.ofNat (nat_lit 79)) (nat_lit 1149))), ((.ofNat (nat_lit 80)), (.int (.ofNat (nat_lit 80)) (nat_lit 1151))), ((.ofNat (nat_lit 81)), (.int (.ofNat (nat_lit 81)) (nat_lit 1153))), ((.ofNat (nat_lit 82)), (.int (.ofNat (nat_lit 82)) (nat_lit 1155))), ((.ofNat (nat_lit 83)), (.int (.ofNat (nat_lit 83)) (nat_lit 1157))), ((.ofNat (nat_lit 84)), (.int (.ofNat (nat_lit 84)) (nat_lit 1159))), ((.ofNat (nat_lit 85)), (.int (.ofNat (nat_lit 85)) (nat_lit 1161))), ((.ofNat (nat_lit 86)), (.int (.ofNat (nat_lit 86)) (nat_lit 1163))), ((.ofNat (nat_lit 87)), (.int (.ofNat (nat_lit 87)) (nat_lit 1165))), ((.ofNat (nat_lit 88)), (.int (.ofNat (nat_lit 88)) (nat_lit 1167))), ((.ofNat (nat_lit 89)), (.int (.ofNat (nat_lit 89)) (nat_lit 1169))), ((.ofNat (nat_lit 90)), (.int (.ofNat (nat_lit 90)) (nat_lit 1171))), ((.ofNat (nat_lit 97)), (.int (.ofNat (nat_lit 97)) (nat_lit 1173))), ((.ofNat (nat_lit 98)), (.int (.ofNat (nat_lit 98)) (nat_lit 1175))), ((.ofNat (nat_lit 99)), (.int (.ofNat (nat_lit 99)) (nat_lit 1177))), ((.ofNat (nat_lit 100)), (.int (.ofNat (nat_lit 100)) (nat_lit 1179))), ((.ofNat (nat_lit 101)), (.int (.ofNat (nat_lit 101)) (nat_lit 1181))), ((.ofNat (nat_lit 102)), (.int (.ofNat (nat_lit 102)) (nat_lit 1183))), ((.ofNat (nat_lit 103)), (.int (.ofNat (nat_lit 103)) (nat_lit 1185))), ((.ofNat (nat_lit 104)), (.int (.ofNat (nat_lit 104)) (nat_lit 1187))), ((.ofNat (nat_lit 105)), (.int (.ofNat (nat_lit 105)) (nat_lit 1189))), ((.ofNat (nat_lit 106)), (.int (.ofNat (nat_lit 106)) (nat_lit 1191))), ((.ofNat (nat_lit 107)), (.int (.ofNat (nat_lit 107)) (nat_lit 1193)))]) (nat_lit 51) (.mk (nat_lit 127) (Array.mk [(nat_lit 46), (nat_lit 47), (nat_lit 48), (nat_lit 49), (nat_lit 50), (nat_lit 51), (nat_lit 52), (nat_lit 53), (nat_lit 54), (nat_lit 55), (nat_lit 56), (nat_lit 57), (nat_lit 65), (nat_lit 66), (nat_lit 67), (nat_lit 68), (nat_lit 69), (nat_lit 70), (nat_lit 71), (nat_lit 72), (nat_lit 73), (nat_lit 74), (nat_lit 75), (nat_lit 76), (nat_lit 77), (nat_lit 78), (nat_lit 79), (nat_lit 80), (nat_lit 81), (nat_lit 82), (nat_lit 83), (nat_lit 84), (nat_lit 85), (nat_lit 86), (nat_lit 87), (nat_lit 88), (nat_lit 89), (nat_lit 90), (nat_lit 97), (nat_lit 98), (nat_lit 99), (nat_lit 100), (nat_lit 101), (nat_lit 102), (nat_lit 103), (nat_lit 104), (nat_lit 105), (nat_lit 106), (nat_lit 107)]) (Array.mk []) (nat_lit 0) (!P.followText "set-order") (nat_lit 2) true)) (Array.mk []))
noncomputable def bO17_654 (P : Params) : Obj := (.mk (.type "bytes_iterator") .none (.fields (Array.mk [(.bytes BTS (nat_lit 1092)), (.int (.ofNat (nat_lit 49)) (nat_lit 0))])) (Array.mk []))
noncomputable def bT17 (P : Params) : BT := (BT.ins (BT.ins (bT16 P) (nat_lit 653) (bO17_653 P)) (nat_lit 654) (bO17_654 P))
noncomputable def bS17 (w : World) (os : OsState) : SharedT := ⟨bT17 w.params, nat_lit 655, {}, Array.mk [.finished], {}, nat_lit 1195, os⟩
noncomputable def bO18_653 (P : Params) : Obj := (.mk (.type "set") .none (.set (Array.mk [((.ofNat (nat_lit 46)), (.int (.ofNat (nat_lit 46)) (nat_lit 1097))), ((.ofNat (nat_lit 47)), (.int (.ofNat (nat_lit 47)) (nat_lit 1099))), ((.ofNat (nat_lit 48)), (.int (.ofNat (nat_lit 48)) (nat_lit 1101))), ((.ofNat (nat_lit 49)), (.int (.ofNat (nat_lit 49)) (nat_lit 1103))), ((.ofNat (nat_lit 50)), (.int (.ofNat (nat_lit 50)) (nat_lit 1105))), ((.ofNat (nat_lit 51)), (.int (.ofNat (nat_lit 51)) (nat_lit 1107))), ((.ofNat (nat_lit 52)), (.int (.ofNat (nat_lit 52)) (nat_lit 1109))), ((.ofNat (nat_lit 53)), (.int (.ofNat (nat_lit 53)) (nat_lit 1111))), ((.ofNat (nat_lit 54)), (.int (.ofNat (nat_lit 54)) (nat_lit 1113))), ((.ofNat (nat_lit 55)), (.int (.ofNat (nat_lit 55)) (nat_lit 1115))), ((.ofNat (nat_lit 56)), (.int (.ofNat (nat_lit 56)) (nat_lit 1117))), ((.ofNat (nat_lit 57)), (.int (.ofNat (nat_lit 57)) (nat_lit 1119))), ((.ofNat (nat_lit 65)), (.int (.ofNat (nat_lit 65)) (nat_lit 1121))), ((.ofNat (nat_lit 66)), (.int (.ofNat (nat_lit 66)) (nat_lit 1123))), ((.ofNat (nat_lit 67)), (.int (.ofNat (nat_lit 67)) (nat_lit 1125))), ((.ofNat (nat_lit 68)), (.int (.ofNat (nat_lit 68)) (nat_lit 1127))), ((.ofNat (nat_lit 69)), (.int (.ofNat (nat_lit 69)) (nat_lit 1129))), ((.ofNat (nat_lit 70)), (.int (.ofNat (nat_lit 70)) (nat_lit 1131))), ((.ofNat (nat_lit 71)), (.int (.ofNat (nat_lit 71)) (nat_lit 1133))), ((.ofNat (nat_lit 72)), (.int (.ofNat (nat_lit 72)) (nat_lit 1135))), ((.ofNat (nat_lit 73)), (.int (.ofNat (nat_lit 73)) (nat_lit 1137))), ((.ofNat (nat_lit 74)), (.int (.ofNat (nat_lit 74)) (nat_lit 1139))), ((.ofNat (nat_lit 75)), (.int (.ofNat (nat_lit 75)) (nat_lit 1141))), ((.ofNat (nat_lit 76)), (.int (.ofNat (nat_lit 76)) (nat_lit 1143))), ((.ofNat (nat_lit 77)), (.int (.ofNat (nat_lit 77)) (nat_lit 1145))), ((.ofNat (nat_lit 78)), (.int (.ofNat (nat_lit 78)) (nat_lit 1147))), ((.ofNat (nat_lit 79)), (.int (.ofNat (nat_lit 79)) (nat_lit 1149))), ((.ofNat (nat_lit 80)), (.int (.ofNat (nat_lit 80)) (nat_lit 1151))), ((.ofNat (nat_lit 81)), (.int (.ofNat (nat_lit 81)) (nat_lit 1153))), ((.ofNat (nat_lit 82)), (.int (.ofNat (nat_lit 82)) (nat_lit 1155))), ((.ofNat (nat_lit 83)), (.int (.ofNat (nat_lit 83)) (nat_lit 1157))), ((.ofNat (nat_lit 84)), (.int (.ofNat (nat_lit 84)) (nat_lit 1159))), ((.ofNat (nat_lit 85)), (.int (.ofNat (nat_lit 85)) (nat_lit 1161))), ((.ofNat (nat_lit 86)), (.int (.ofNat (nat_lit 86)) (nat_lit 1163))), ((.ofNat (nat_lit 87)), (.int (.ofNat (nat_lit 87)) (nat_lit 1165))), ((.ofNat (nat_lit 88)), (.int (.ofNat (nat_lit 88)) (nat_lit 1167))), ((.ofNat (nat_lit 89)), (.int (.ofNat (nat_lit 89)) (nat_lit 1169))), ((.ofNat (nat_lit 90)), (.int (.ofNat (nat_lit 90)) (nat_lit 1171))), ((.ofNat (nat_lit 97)), (.int (.ofNat (nat_lit 97)) (nat_lit 1173))), ((.ofNat (nat_lit 98)), (.int (.ofNat (nat_lit 98)) (nat_lit 1175))), ((.ofNat (nat_lit 99)), (.int (.ofNat (nat_lit 99)) (nat_lit 1177))), ((.ofNat (nat_lit 100)), (.int (.ofNat (nat_lit 100)) (nat_lit 1179))), ((.ofNat (nat_lit 101)), (.int (.ofNat (nat_lit 101)) (nat_lit 1181))), ((.ofNat (nat_lit 102)), (.int (.ofNat (nat_lit 102)) (nat_lit 1183))), ((.ofNat (nat_lit 103)), (.int (.ofNat (nat_lit 103)) (nat_lit 1185))), ((.ofNat (nat_lit 104)), (.int (.ofNat (nat_lit 104)) (nat_lit 1187))), ((.ofNat (nat_lit 105)), (.int (.ofNat (nat_lit 105)) (nat_lit 1189))), ((.ofNat (nat_lit 106)), (.int (.ofNat (nat_lit 106)) (nat_lit 1191))), ((.ofNat (nat_lit 107)), (.int (.ofNat (nat_lit 107)) (nat_lit 1193))), ((.ofNat (nat_lit 108)), (.int (.ofNat (nat_lit 108)) (nat_lit 1195))), ((.ofNat (nat_lit 109)), (.int (.ofNat (nat_lit 109)) (nat_lit 1197))), ((.ofNat (nat_lit 110)), (.int (.ofNat (nat_lit 110)) (nat_lit 1199)))]) (nat_lit 54) (.mk (nat_lit 127) (Array.mk [(nat_lit 46), (nat_lit 47), (nat_lit 48), (nat_lit 49), (nat_lit 50), (nat_lit 51), (nat_lit 52), (nat_lit 53), (nat_lit 54), (nat_lit 55), (nat_lit 56), (nat_lit 57), (nat_lit 65), (nat_lit 66), (nat_lit 67), (nat_lit 68), (nat_lit 69), (nat_lit 70), (nat_lit 71), (nat_lit 72), (nat_lit 73), (nat_lit 74), (nat_lit 75), (nat_lit 76), (nat_lit 77), (nat_lit 78), (nat_lit 79), (nat_lit 80), (nat_lit 81), (nat_lit 82), (nat_lit 83), (nat_lit 84), (nat_lit 85), (nat_lit 86), (nat_lit 87), (nat_lit 88), (nat_lit 89), (nat_lit 90), (nat_lit 97), (nat_lit 98), (nat_lit 99), (nat_lit 100), (nat_lit 101), (nat_lit 102), (nat_lit 103), (nat_lit 104), (nat_lit 105), (nat_lit 106), (nat_lit 107), (nat_lit 108), (nat_lit 109), (nat_lit 110)]) (Array.mk []) (nat_lit 0) (!P.followText "set-order") (nat_lit 2) true)) (Array.mk []))
noncomputable def bO18_654 (P : Params) : Obj := (.mk (.type "bytes_iterator") .none (.fields (Array.mk [(.bytes BTS (nat_lit 1092)), (.int (.ofNat (nat_lit 52)) (nat_lit 0))])) (Array.mk []))
noncomputable def bT18 (P : Params) : BT := (BT.ins (BT.ins (bT17 P) (nat_lit 653) (bO18_653 P)) (nat_lit 654) (bO18_654 P))
noncomputable def bS18 (w : World) (os : OsState) : SharedT := ⟨bT18 w.params, nat_lit 655, {}, Array.mk [.finished], {}, nat_lit 1201, os⟩
noncomputable def bO19_653 (P : Params) : Obj := (.mk (.type "set") .none (.set (Array.mk [((.ofNat (nat_lit 46)), (.int (.ofNat (nat_lit 46)) (nat_lit 1097))), ((.ofNat (nat_lit 47)), (.int (.ofNat (nat_lit 47)) (nat_lit 1099))), ((.ofNat (nat_lit 48)), (.int (.ofNat (nat_lit 48)) (nat_lit 1101))), ((.ofNat (nat_lit 49)), (.int (.ofNat (nat_lit 49)) (nat_lit 1103))), ((.ofNat (nat_lit 50)), (.int (.ofNat (nat_lit 50)) (nat_lit 1105))), ((.ofNat (nat_lit 51)), (.int (.ofNat (nat_lit 51)) (nat_lit 1107))), ((.ofNat (nat_lit 52)), (.int (.ofNat (nat_lit 52)) (nat_lit 1109))), ((.ofNat (nat_lit 53)), (.int (.ofNat (nat_lit 53)) (nat_lit 1111))), ((.ofNat (nat_lit 54)), (.int (.ofNat (nat_lit 54)) (nat_lit 1113))), ((.ofNat (nat_lit 55)), (.int (.ofNat (nat_lit 55)) (nat_lit 1115))), ((.ofNat (nat_lit 56)), (.int (.ofNat (nat_lit 56)) (nat_lit 1117))), ((.ofNat (nat_lit 57)), (.int (.ofNat (nat_lit 57)) (nat_lit 1119))), ((.ofNat (nat_lit 65)), (.int (.ofNat (nat_lit 65)) (nat_lit 1121))), ((.ofNat (nat_lit 66)), (.int (.ofNat (nat_lit 66)) (nat_lit 1123))), ((.ofNat (nat_lit 67)), (.int (.ofNat (nat_lit 67)) (nat_lit 1125))), ((.ofNat (nat_lit 68)), (.int (.ofNat (nat_lit 68)) (nat_lit 1127))), ((.ofNat (nat_lit 69)), (.int (.ofNat (nat_lit 69)) (nat_lit 1129))), ((.ofNat (nat_lit 70)), (.int (.ofNat (nat_lit 70)) (nat_lit 1131))), ((.ofNat (nat_lit 71)), (.int (.ofNat (nat_lit 71)) (nat_lit 1133))), ((.ofNat (nat_lit 72)), (.int (.ofNat (nat_lit 72)) (nat_lit 1135))), ((.ofNat (nat_lit 73)), (.int (.ofNat (nat_lit 73)) (nat_lit 1137))), ((.ofNat (nat_lit 74)), (.int (.ofNat (nat_lit 74)) (nat_lit 1139))), ((.ofNat (nat_lit 75)), (.int (.ofNat (nat_lit 75)) (nat_lit 1141))), ((.ofNat (nat_lit 76)), (.int (.ofNat (nat_lit 76)) (nat_lit 1143))), ((.ofNat (nat_lit 77)), (.int (.ofNat (nat_lit 77)) (nat_lit 1145))), ((.ofNat (nat_lit 78)), (.int (.ofNat (nat_lit 78)) (nat_lit 1147))), ((.ofNat (nat_lit 79)), (.int (.ofNat (nat_lit 79)) (nat_lit 1149))), ((.ofNat (nat_lit 80)), (.int (.ofNat (nat_lit 80)) (nat_lit 1151))), ((.ofNat (nat_lit 81)), (.int (.ofNat (nat_lit 81)) (nat_lit 1153))), ((.ofNat (nat_lit 82)), (.int (.ofNat (nat_lit 82)) (nat_lit 1155))), ((.ofNat (nat_lit 83)), (.int (.ofNat (nat_lit 83)) (nat_lit 1157))), ((.ofNat (nat_lit 84)), (.int (.ofNat (nat_lit 84)) (nat_lit 1159))), ((.ofNat (nat_lit 85)), (.int (.ofNat (nat_lit 85)) (nat_lit 1161))), ((.ofNat (nat_lit 86)), (.int (.ofNat (nat_lit 86)) (nat_lit 1163))), ((.ofNat (nat_lit 87)), (.int (.ofNat (nat_lit 87)) (nat_lit 1165))), ((.ofNat (nat_lit 88)), (.int (.ofNat (nat_lit 88)) (nat_lit 1167))), ((.ofNat (nat_lit 89)), (.int (.ofNat (nat_lit 89)) (nat_lit 1169))), ((.ofNat (nat_lit 90)), (.int (.ofNat (nat_lit 90)) (nat_lit 1171))), ((.ofNat (nat_lit 97)), (.int (.ofNat (nat_lit 97)) (nat_lit 1173))), ((.ofNat (nat_lit 98)), (.int (.ofNat (nat_lit 98)) (nat_lit 1175))), ((.ofNat (nat_lit 99)), (.int (.ofNat (nat_lit 99)) (nat_lit 1177))), ((.ofNat (nat_lit 100)), (.int (.ofNat (nat_lit 100)) (nat_lit 1179))), ((.ofNat (nat_lit 101)), (.int (.ofNat (nat_lit 101)) (nat_lit 1181))), ((.ofNat (nat_lit 102)), (.int (.ofNat (nat_lit 102)) (nat_lit 1183))), ((.ofNat (nat_lit 103)), (.int (.ofNat (nat_lit 103)) (nat_lit 1185))), ((.ofNat (nat_lit 104)), (.int (.ofNat (nat_lit 104)) (nat_lit 1187))), ((.ofNat (nat_lit 105)), (.int (.ofNat (nat_lit 105)) (nat_lit 1189))), ((.ofNat (nat_lit 106)), (.int (.ofNat (nat_lit 106)) (nat_lit 1191))), ((.ofNat (nat_lit 107)), (.int (.ofNat (nat_lit 107)) (nat_lit 1193))), ((.ofNat (nat_lit 108)), (.int (.ofNat (nat_lit 108)) (nat_lit 1195))), ((.ofNat (nat_lit 109)), (.int (.ofNat (nat_lit 109)) (nat_lit 1197))), ((.ofNat (nat_lit 110)), (.int (.ofNat (nat_lit 110)) (nat_lit 1199))), ((.ofNat (nat_lit 111)), (.int (.ofNat (nat_lit 111)) (nat_lit 1201))), ((.ofNat (nat_lit 112)), (.int (.ofNat (nat_lit 112)) (nat_lit 1203))), ((.ofNat (nat_lit 113)), (.int (.ofNat (nat_lit 113)) (nat_lit 1205)))]) (nat_lit 57) (.mk (nat_lit 127) (Array.mk [(nat_lit 46), (nat_lit 47), (nat_lit 48), (nat_lit 49), (nat_lit 50), (nat_lit 51), (nat_lit 52), (nat_lit 53), (nat_lit 54), (nat_lit 55), (nat_lit 56), (nat_lit 57), (nat_lit 65), (nat_lit 66), (nat_lit 67), (nat_lit 68), (nat_lit 69), (nat_lit 70), (nat_lit 71), (nat_lit 72), (nat_lit 73), (nat_lit 74), (nat_lit 75), (nat_lit 76), (nat_lit 77), (nat_lit 78), (nat_lit 79), (nat_lit 80), (nat_lit 81), (nat_lit 82), (nat_lit 83), (nat_lit 84), (nat_lit 85), (nat_lit 86), (nat_lit 87), (nat_lit 88), (nat_lit 89), (nat_lit 90), (nat_lit 97), (nat_lit 98), (nat_lit 99), (nat_lit 100), (nat_lit 101), (nat_lit 102), (nat_lit 103), (nat_lit 104), (nat_lit 105), (nat_lit 106), (nat_lit 107), (nat_lit 108), (nat_lit 109), (nat_lit 110), (nat_lit 111), (nat_lit 112), (nat_lit 113)]) (Array.mk []) (nat_lit 0) (!P.followText "set-order") (nat_lit 2) true)) (Array.mk []))
noncomputable def bO19_654 (P : Params) : Obj := (.mk (.type "bytes_iterator") .none (.fields (Array.mk [(.bytes BTS (nat_lit 1092)), (.int (.ofNat (nat_lit 55)) (nat_lit 0))])) (Array.mk []))
noncomputable def bT19 (P : Params) : BT := (BT.ins (BT.ins (bT18 P) (nat_lit 653) (bO19_653 P)) (nat_lit 654) (bO19_654 P))
noncomputable def bS19 (w : World) (os : OsState) : SharedT := ⟨bT19 w.params, nat_lit 655, {}, Array.mk [.finished], {}, nat_lit 1207, os⟩
noncomputable def bO20_653 (P : Params) : Obj := (.mk (.type "set") .none (.set (Array.mk [((.ofNat (nat_lit 46)), (.int (.ofNat (nat_lit 46)) (nat_lit 1097))), ((.ofNat (nat_lit 47)), (.int (.ofNat (nat_lit 47)) (nat_lit 1099))), ((.ofNat (nat_lit 48)), (.int (.ofNat (nat_lit 48)) (nat_lit 1101))), ((.ofNat (nat_lit 49)), (.int (.ofNat (nat_lit 49)) (nat_lit 1103))), ((.ofNat (nat_lit 50)), (.int (.ofNat (nat_lit 50)) (nat_lit 1105))), ((.ofNat (nat_lit 51)), (.int (.ofNat (nat_lit 51)) (nat_lit 1107))), ((.ofNat (nat_lit 52)), (.int (.ofNat (nat_lit 52)) (nat_lit 1109))), ((.ofNat (nat_lit 53)), (.int (.ofNat (nat_lit 53)) (nat_lit 1111))), ((.ofNat (nat_lit 54)), (.int (.ofNat (nat_lit 54)) (nat_lit 1113))), ((.ofNat (nat_lit 55)), (.int (.ofNat (nat_lit 55)) (nat_lit 1115))), ((.ofNat (nat_lit 56)), (.int (.ofNat (nat_lit 56)) (nat_lit 1117))), ((.ofNat (nat_lit 57)), (.int (.ofNat (nat_lit 57)) (nat_lit 1119))), ((.ofNat (nat_lit 65)), (.int (.ofNat (nat_lit 65)) (nat_lit 1121))), ((.ofNat (nat_lit 66)), (.int (.ofNat (nat_lit 66)) (nat_lit 1123))), ((.ofNat (nat_lit 67)), (.int (.ofNat (nat_lit 67)) (nat_lit 1125))), ((.ofNat (nat_lit 68)), (.int (.ofNat (nat_lit 68)) (nat_lit 1127))), ((.ofNat (nat_lit 69)), (.int (.ofNat (nat_lit 69)) (nat_lit 1129))), ((.ofNat (nat_lit 70)), (.int (.ofNat (nat_lit 70)) (nat_lit 1131))), ((.ofNat (nat_lit 71)), (.int (.ofNat (nat_lit 71)) (nat_lit 1133))), ((.ofNat (nat_lit 72)), (.int (.ofNat (nat_lit 72)) (nat_lit 1135))), ((.ofNat (nat_lit 73)), (.int (.ofNat (nat_lit 73)) (nat_lit 1137))), ((.ofNat (nat_lit 74)), (.int (.ofNat (nat_lit 74)) (nat_lit 1139))), ((.ofNat (nat_lit 75)), (.int (.ofNat (nat_lit 75)) (nat_lit 1141))), ((.ofNat (nat_lit 76)), (.int (.ofNat (nat_lit 76)) (nat_lit 1143))), ((.ofNat (nat_lit 77)), (.int (.ofNat (nat_lit 77)) (nat_lit 1145))), ((.ofNat (nat_lit 78)), (.int (.ofNat (nat_lit 78)) (nat_lit 1147))), ((.ofNat (nat_lit 79)), (.int (.ofNat (nat_lit 79)) (nat_lit 1149))), ((.ofNat (nat_lit 80)), (.int (.ofNat (nat_lit 80)) (nat_lit 1151))), ((.ofNat (nat_lit 81)), (.int (.ofNat (nat_lit 81)) (nat_lit 1153))), ((.ofNat (nat_lit 82)), (.int (.ofNat (nat_lit 82)) (nat_lit 1155))), ((.ofNat (nat_lit 83)), (.int (.ofNat (nat_lit 83)) (nat_lit 1157))), ((.ofNat (nat_lit 84)), (.int (.ofNat (nat_lit 84)) (nat_lit 1159))), ((.ofNat (nat_lit 85)), (.int (.ofNat (nat_lit 85)) (nat_lit 1161))), ((.ofNat (nat_lit 86)), (.int (.ofNat (nat_lit 86)) (nat_lit 1163))), ((.ofNat (nat_lit 87)), (.int (.ofNat (nat_lit 87)) (nat_lit 1165))), ((.ofNat (nat_lit 88)), (.int (.ofNat (nat_lit 88)) (nat_lit 1167))), ((.ofNat (nat_lit 89)), (.int (.ofNat (nat_lit 89)) (nat_lit 1169))), ((.ofNat (nat_lit 90)), (.int (.ofNat (nat_lit 90)) (nat_lit 1171))), ((.ofNat (nat_lit 97)), (.int (.ofNat (nat_lit 97)) (nat_lit 1173))), ((.ofNat (nat_lit 98)), (.int (.ofNat (nat_lit 98)) (nat_lit 1175))), ((.ofNat (nat_lit 99)), (.int (.ofNat (nat_lit 99)) (nat_lit 1177))), ((.ofNat (nat_lit 100)), (.int (.ofNat (nat_lit 100)) (nat_lit 1179))), ((.ofNat (nat_lit 101)), (.int (.ofNat (nat_lit 101)) (nat_lit 1181))), ((.ofNat (nat_lit 102)), (.int (.ofNat (nat_lit 102)) (nat_lit 1183))), ((.ofNat (nat_lit 103)), (.int (.ofNat (nat_lit 103)) (nat_lit 1185))), ((.ofNat (nat_lit 104)), (.int (.ofNat (nat_lit 104)) (nat_lit 1187))), ((.ofNat (nat_lit 105)), (.int (.ofNat (nat_lit 105)) (nat_lit 1189))), ((.ofNat (nat_lit 106)), (.int (.ofNat (nat_lit 106)) (nat_lit 1191))), ((.ofNat (nat_lit 107)), (.int (.ofNat (nat_lit 107)) (nat_lit 1193))), ((.ofNat (nat_lit 108)), (.int (.ofNat (nat_lit 108)) (nat_lit 1195))), ((.ofNat (nat_lit 109)), (.int (.ofNat (nat_lit 109)) (nat_lit 1197))), ((.ofNat (nat_lit 110)), (.int (.ofNat (nat_lit 110)) (nat_lit 1199))), ((.ofNat (nat_lit 111)), (.int (.ofNat (nat_lit 111)) (nat_lit 1201))), ((.ofNat (nat_lit 112)), (.int (.ofNat (nat_lit 112)) (nat_lit 1203))), ((.ofNat (nat_lit 113)), (.int (.ofNat (nat_lit 113)) (nat_lit 1205))), ((.ofNat (nat_lit 114)), (.int (.ofNat (nat_lit 114)) (nat_lit 1207))), ((.ofNat (nat_lit 115)), (.int (.ofNat (nat_lit 115)) (nat_lit 1209))), ((.ofNat (nat_lit 116)), (.int (.ofNat (nat_lit 116)) (nat_lit 1211)))]) (nat_lit 60) (.mk (nat_lit 127) (Array.mk [(nat_lit 46), (nat_lit 47), (nat_lit 48), (nat_lit 49), (nat_lit 50), (nat_lit 51), (nat_lit 52), (nat_lit 53), (nat_lit 54), (nat_lit 55), (nat_lit 56), (nat_lit 57), (nat_lit 65), (nat_lit 66), (nat_lit 67), (nat_lit 68), (nat_lit 69), (nat_lit 70), (nat_lit 71), (nat_lit 72), (nat_lit 73), (nat_lit 74), (nat_lit 75), (nat_lit 76), (nat_lit 77), (nat_lit 78), (nat_lit 79), (nat_lit 80), (nat_lit 81), (nat_lit 82), (nat_lit 83), (nat_lit 84), (nat_lit 85), (nat_lit 86), (nat_lit 87), (nat_lit 88), (nat_lit 89), (nat_lit 90), (nat_lit 97), (nat_lit 98), (nat_lit 99), (nat_lit 100), (nat_lit 101), (nat_lit 102), (nat_lit 103), (nat_lit 104), (nat_lit 105), (nat_lit 106), (nat_lit 107), (nat_lit 108), (nat_lit 109), (nat_lit 110), (nat_lit 111), (nat_lit 112), (nat_lit 113), (nat_lit 114), (nat_lit 115), (nat_lit 116)]) (Array.mk []) (nat_lit 0) (!P.followText "set-order") (nat_lit 2) true)) (Array.mk []))
noncomputable def bO20_654 (P : Params) : Obj := (.mk (.type "bytes_iterator") .none (.fields (Array.mk [(.bytes BTS (nat_lit 1092)), (.int (.ofNat (nat_lit 58)) (nat_lit 0))])) (Array.mk []))
noncomputable def bT20 (P : Params) : BT := (BT.ins (BT.ins (bT19 P) (nat_lit 653) (bO20_653 P)) (nat_lit 654) (bO20_654 P))
noncomputable def bS20 (w : World) (os : OsState) : SharedT := ⟨bT20 w.params, nat_lit 655, {}, Array.mk [.finished], {}, nat_lit 1213, os⟩
noncomputable def bO21_653 (P : Params) : Obj := (.mk (.type "set") .none (.set (Array.mk [((.ofNat (nat_lit 46)), (.int (.ofNat (nat_lit 46)) (nat_lit 1097))), ((.ofNat (nat_lit 47)), (.int (.ofNat (nat_lit 47)) (nat_lit 1099))), ((.ofNat (nat_lit 48)), (.int (.ofNat (nat_lit 48)) (nat_lit 1101))), ((.ofNat (nat_lit 49)), (.int (.ofNat (nat_lit 49)) (nat_lit 1103))), ((.ofNat (nat_lit 50)), (.int (.ofNat (nat_lit 50)) (nat_lit 1105))), ((.ofNat (nat_lit 51)), (.int (.ofNat (nat_lit 51)) (nat_lit 1107))), ((.ofNat (nat_lit 52)), (.int (.ofNat (nat_lit 52)) (nat_lit 1109))), ((.ofNat (nat_lit 53)), (.int (.ofNat (nat_lit 53)) (nat_lit 1111))), ((.ofNat (nat_lit 54)), (.int (.ofNat (nat_lit 54)) (nat_lit 1113))), ((.ofNat (nat_lit 55)), (.int (.ofNat (nat_lit 55)) (nat_lit 1115))), ((.ofNat (nat_lit 56)), (.int (.ofNat (nat_lit 56)) (nat_lit 1117))), ((.ofNat (nat_lit 57)), (.int (.ofNat (nat_lit 57)) (nat_lit 1119))), ((.ofNat (nat_lit 65)), (.int (.ofNat (nat_lit 65)) (nat_lit 1121))), ((.ofNat (nat_lit 66)), (.int (.ofNat (nat_lit 66)) (nat_lit 1123))), ((.ofNat (nat_lit 67)), (.int (.ofNat (nat_lit 67)) (nat_lit 1125))), ((.ofNat (nat_lit 68)), (.int (.ofNat (nat_lit 68)) (nat_lit 1127))), ((.ofNat (nat_lit 69)), (.int (.ofNat (nat_lit 69)) (nat_lit 1129))), ((.ofNat (nat_lit 70)), (.int (.ofNat (nat_lit 70)) (nat_lit 1131))), ((.ofNat (nat_lit 71)), (.int (.ofNat (nat_lit 71)) (nat_lit 1133))), ((.ofNat (nat_lit 72)), (.int (.ofNat (nat_lit 72)) (nat_lit 1135))), ((.ofNat (nat_lit 73)), (.int (.ofNat (nat_lit 73)) (nat_lit 1137))), ((.ofNat (nat_lit 74)), (.int (.ofNat (nat_lit 74)) (nat_lit 1139))), ((.ofNat (nat_lit 75)), (.int (.ofNat (nat_lit 75)) (nat_lit 1141))), ((.ofNat (nat_lit 76)), (.int (.ofNat (nat_lit 76)) (nat_lit 1143))), ((.ofNat (nat_lit 77)), (.int (.ofNat (nat_lit 77)) (nat_lit 1145))), ((.ofNat (nat_lit 78)), (.int (.ofNat (nat_lit 78)) (nat_lit 1147))), ((.ofNat (nat_lit 79)), (.int (.ofNat (nat_lit 79)) (nat_lit 1149))), ((.ofNat (nat_lit 80)), (.int (.ofNat (nat_lit 80)) (nat_lit 1151))), ((.ofNat (nat_lit 81)), (.int (.ofNat (nat_lit 81)) (nat_lit 1153))), ((.ofNat (nat_lit 82)), (.int (.ofNat (nat_lit 82)) (nat_lit 1155))), ((.ofNat (nat_lit 83)), (.int (.ofNat (nat_lit 83)) (nat_lit 1157))), ((.ofNat (nat_lit 84)), (.int (.ofNat (nat_lit 84)) (nat_lit 1159))), ((.ofNat (nat_lit 85)), (.int (.ofNat (nat_lit 85)) (nat_lit 1161))), ((.ofNat (nat_lit 86)), (.int (.ofNat (nat_lit 86)) (nat_lit 1163))), ((.ofNat (nat_lit 87)), (.int (.ofNat (nat_lit 87)) (nat_lit 1165))), ((.ofNat (nat_lit 88)), (.int (.ofNat (nat_lit 88)) (nat_lit 1167))), ((.ofNat (nat_lit 89)), (.int (.ofNat (nat_lit 89)) (nat_lit 1169))), ((.ofNat (nat_lit 90)), (.int (.ofNat (nat_lit 90)) (nat_lit 1171))), ((.ofNat (nat_lit 97)), (.int (.ofNat (nat_lit 97)) (nat_lit 1173))), ((.ofNat (nat_lit 98)), (.int (.ofNat (nat_lit 98)) (nat_lit 1175))), ((.ofNat (nat_lit 99)), (.int (.ofNat (nat_lit 99)) (nat_lit 1177))), ((.ofNat (nat_lit 100)), (.int (.ofNat (nat_lit 100)) (nat_lit 1179))), ((.ofNat (nat_lit 101)), (.int (.ofNat (nat_lit 101)) (nat_lit 1181))), ((.ofNat (nat_lit 102)), (.int (.ofNat (nat_lit 102)) (nat_lit 1183))), ((.ofNat (nat_lit 103)), (.int (.ofNat (nat_lit 103)) (nat_lit 1185))), ((.ofNat (nat_lit 104)), (.int (.ofNat (nat_lit 104)) (nat_lit 1187))), ((.ofNat (nat_lit 105)), (.int (.ofNat (nat_lit 105)) (nat_lit 1189))), ((.ofNat (nat_lit 106)), (.int (.ofNat (nat_lit 106)) (nat_lit 1191))), ((.ofNat (nat_lit 107)), (.int (.ofNat (nat_lit 107)) (nat_lit 1193))), ((.ofNat (nat_lit 108)), (.int (.ofNat (nat_lit 108)) (nat_lit 1195))), ((.ofNat (nat_lit 109)), (.int (.ofNat (nat_lit 109)) (nat_lit 1197))), ((.ofNat (nat_lit 110)), (.int (.ofNat (nat_lit 110)) (nat_lit 1199))), ((.ofNat (nat_lit 111)), (.int (.ofNat (nat_lit 111)) (nat_lit 1201))), ((.ofNat (nat_lit 112)), (.int (.ofNat (nat_lit 112)) (nat_lit 1203))), ((.ofNat (nat_lit 113)), (.int (.ofNat (nat_lit 113)) (nat_lit 1205))), ((.ofNat (nat_lit 114)), (.int (.ofNat (nat_lit 114)) (nat_lit 1207))), ((.ofNat (nat_lit 115)), (.int (.ofNat (nat_lit 115)) (nat_lit 1209))), ((.ofNat (nat_lit 116)), (.int (.ofNat (nat_lit 116)) (nat_lit 1211))), ((.ofNat (nat_lit 117)), (.int (.ofNat (nat_lit 117)) (nat_lit 1213))), ((.ofNat (nat_lit 118)), (.int (.ofNat (nat_lit 118)) (nat_lit 1215))), ((.ofNat (nat_lit 119)), (.int (.ofNat (nat_lit 119)) (nat_lit 1217)))]) (nat_lit 63) (.mk (nat_lit 127) (Array.mk [(nat_lit 46), (nat_lit 47), (nat_lit 48), (nat_lit 49), (nat_lit 50), (nat_lit 51), (nat_lit 52), (nat_lit 53), (nat_lit 54), (nat_lit 55), (nat_lit 56), (nat_lit 57), (nat_lit 65), (nat_lit 66), (nat_lit 67), (nat_lit 68), (nat_lit 69), (nat_lit 70), (nat_lit 71), (nat_lit 72), (nat_lit 73), (nat_lit 74), (nat_lit 75), (nat_lit 76), (nat_lit 77), (nat_lit 78), (nat_lit 79), (nat_lit 80), (nat_lit 81), (nat_lit 82), (nat_lit 83), (nat_lit 84), (nat_lit 85), (nat_lit 86), (nat_lit 87), (nat_lit 88), (nat_lit 89), (nat_lit 90), (nat_lit 97), (nat_lit 98), (nat_lit 99), (nat_lit 100), (nat_lit 101), (nat_lit 102), (nat_lit 103), (nat_lit 104), (nat_lit 105), (nat_lit 106), (nat_lit 107), (nat_lit 108), (nat_lit 109), (nat_lit 110), (nat_lit 111), (nat_lit 112), (nat_lit 113), (nat_lit 114), (nat_lit 115), (nat_lit 116), (nat_lit 117), (nat_lit 118), (nat_lit 119)]) (Array.mk []) (nat_lit 0) (!P.followText "set-order") (nat_lit 2) true)) (Array.mk []))
noncomputable def bO21_654 (P : Params) : Obj := (.mk (.type "bytes_iterator") .none (.fields (Array.mk [(.bytes BTS (nat_lit 1092)), (.int (.ofNat (nat_lit 61)) (nat_lit 0))])) (Array.mk []))
noncomputable def bT21 (P : Params) : BT := (BT.ins (BT.ins (bT20 P) (nat_lit 653) (bO21_653 P)) (nat_lit 654) (bO21_654 P))
noncomputable def bS21 (w : World) (os : OsState) : SharedT := ⟨bT21 w.params, nat_lit 655, {}, Array.mk [.finished], {}, nat_lit 1219, os⟩
noncomputable def bO22_653 (P : Params) : Obj := (.mk (.type "set") .none (.set (Array.mk [((.ofNat (nat_lit 46)), (.int (.ofNat (nat_lit 46)) (nat_lit 1097))), ((.ofNat (nat_lit 47)), (.int (.ofNat (nat_lit 47)) (nat_lit 1099))), ((.ofNat (nat_lit 48)), (.int (.ofNat (nat_lit 48)) (nat_lit 1101))), ((.ofNat (nat_lit 49)), (.int (.ofNat (nat_lit 49)) (nat_lit 1103))), ((.ofNat (nat_lit 50)), (.int (.ofNat (nat_lit 50)) (nat_lit 1105))), ((.ofNat (nat_lit 51)), (.int (.ofNat (nat_lit 51)) (nat_lit 1107))), ((.ofNat (nat_lit 52)), (.int (.ofNat (nat_lit 52)) (nat_lit 1109))), ((.ofNat (nat_lit 53)), (.int (.ofNat (nat_lit 53)) (nat_lit 1111))), ((.ofNat (nat_lit 54)), (.int (.ofNat (nat_lit 54)) (nat_lit 1113))), ((.ofNat (nat_lit 55)), (.int (.ofNat (nat_lit 55)) (nat_lit 1115))), ((.ofNat (nat_lit 56)), (.int (.ofNat (nat_lit 56)) (nat_lit 1117))), ((.ofNat (nat_lit 57)), (.int (.ofNat (nat_lit 57)) (nat_lit 1119))), ((.ofNat (nat_lit 65)), (.int (.ofNat (nat_lit 65)) (nat_lit 1121))), ((.ofNat (nat_lit 66)), (.int (.ofNat (nat_lit 66)) (nat_lit 1123))), ((.ofNat (nat_lit 67)), (.int (.ofNat (nat_lit 67)) (nat_lit 1125))), ((.ofNat (nat_lit 68)), (.int (.ofNat (nat_lit 68)) (nat_lit 1127))), ((.ofNat (nat_lit 69)), (.int (.ofNat (nat_lit 69)) (nat_lit 1129))), ((.ofNat (nat_lit 70)), (.int (.ofNat (nat_lit 70)) (nat_lit 1131))), ((.ofNat (nat_lit 71)), (.int (.ofNat (nat_lit 71)) (nat_lit 1133))), ((.ofNat (nat_lit 72)), (.int (.ofNat (nat_lit 72)) (nat_lit 1135))), ((.ofNat (nat_lit 73)), (.int (.ofNat (nat_lit 73)) (nat_lit 1137))), ((.ofNat (nat_lit 74)), (.int (.ofNat (nat_lit 74)) (nat_lit 1139))), ((.ofNat (nat_lit 75)), (.int (.ofNat (nat_lit 75)) (nat_lit 1141))), ((.ofNat (nat_lit 76)), (.int (.ofNat (nat_lit 76)) (nat_lit 1143))), ((.ofNat (nat_lit 77)), (.int (.ofNat (nat_lit 77)) (nat_lit 1145))), ((.ofNat (nat_lit 78)), (.int (.ofNat (nat_lit 78)) (nat_lit 1147))), ((.ofNat (nat_lit 79)), (.int (.ofNat (nat_lit 79)) (nat_lit 1149))), ((.ofNat (nat_lit 80)), (.int (.ofNat (nat_lit 80)) (nat_lit 1151))), ((.ofNat (nat_lit 81)), (.int (.ofNat (nat_lit 81)) (nat_lit 1153))), ((.ofNat (nat_lit 82)), (.int (.ofNat (nat_lit 82)) (nat_lit 1155))), ((.ofNat (nat_lit 83)), (.int (.ofNat (nat_lit 83)) (nat_lit 1157))), ((.ofNat (nat_lit 84)), (.int (.ofNat (nat_lit 84)) (nat_lit 1159))), ((.ofNat (nat_lit 85)), (.int (.ofNat (nat_lit 85)) (nat_lit 1161))), ((.ofNat (nat_lit 86)), (.int (.ofNat (nat_lit 86)) (nat_lit 1163))), ((.ofNat (nat_lit 87)), (.int (.ofNat (nat_lit 87)) (nat_lit 1165))), ((.ofNat (nat_lit 88)), (.int (.ofNat (nat_lit 88)) (nat_lit 1167))), ((.ofNat (nat_lit 89)), (.int (.ofNat (nat_lit 89)) (nat_lit 1169))), ((.ofNat (nat_lit 90)), (.int (.ofNat (nat_lit 90)) (nat_lit 1171))), ((.ofNat (nat_lit 97)), (.int (.ofNat (nat_lit 97)) (nat_lit 1173))), ((.ofNat (nat_lit 98)), (.int (.ofNat (nat_lit 98)) (nat_lit 1175))), ((.ofNat (nat_lit 99)), (.int (.ofNat (nat_lit 99)) (nat_lit 1177))), ((.ofNat (nat_lit 100)), (.int (.ofNat (nat_lit 100)) (nat_lit 1179))), ((.ofNat (nat_lit 101)), (.int (.ofNat (nat_lit 101)) (nat_lit 1181))), ((.ofNat (nat_lit 102)), (.int (.ofNat (nat_lit 102)) (nat_lit 1183))), ((.ofNat (nat_lit 103)), (.int (.ofNat (nat_lit 103)) (nat_lit 1185))), ((.ofNat (nat_lit 104)), (.int (.ofNat (nat_lit 104)) (nat_lit 1187))), ((.ofNat (nat_lit 105)), (.int (.ofNat (nat_lit 105)) (nat_lit 1189))), ((.ofNat (nat_lit 106)), (.int (.ofNat (nat_lit 106)) (nat_lit 1191))), ((.ofNat (nat_lit 107)), (.int (.ofNat (nat_lit 107)) (nat_lit 1193))), ((.ofNat (nat_lit 108)), (.int (.ofNat (nat_lit 108)) (nat_lit 1195))), ((.ofNat (nat_lit 109)), (.int (.ofNat (nat_lit 109)) (nat_lit 1197))), ((.ofNat (nat_lit 110)), (.int (.ofNat (nat_lit 110)) (nat_lit 1199))), ((.ofNat (nat_lit 111)), (.int (.ofNat (nat_lit 111)) (nat_lit 1201))), ((.ofNat (nat_lit 112)), (.int (.ofNat (nat_lit 112)) (nat_lit 1203))), ((.ofNat (nat_lit 113)), (.int (.ofNat (nat_lit 113)) (nat_lit 1205))), ((.ofNat (nat_lit 114)), (.int (.ofNat (nat_lit 114)) (nat_lit 1207))), ((.ofNat (nat_lit 115)), (.int (.ofNat (nat_lit 115)) (nat_lit 1209))), ((.ofNat (nat_lit 116)), (.int (.ofNat (nat_lit 116)) (nat_lit 1211))), ((.ofNat (nat_lit 117)), (.int (.ofNat (nat_lit 117)) (nat_lit 1213))), ((.ofNat (nat_lit 118)), (.int (.ofNat (nat_lit 118)) (nat_lit 1215))), ((.ofNat (nat_lit 119)), (.int (.ofNat (nat_lit 119)) (nat_lit 1217))), ((.ofNat (nat_lit 120)), (.int (.ofNat (nat_lit 120)) (nat_lit 1219))), ((.ofNat (nat_lit 121)), (.int (.ofNat (nat_lit 121)) (nat_lit 1221))), ((.ofNat (nat_lit 122)), (.int (.ofNat (nat_lit 122)) (nat_lit 1223)))]) (nat_lit 66) (.mk (nat_lit 127) (Array.mk [(nat_lit 46), (nat_lit 47), (nat_lit 48), (nat_lit 49), (nat_lit 50), (nat_lit 51), (nat_lit 52), (nat_lit 53), (nat_lit 54), (nat_lit 55), (nat_lit 56), (nat_lit 57), (nat_lit 65), (nat_lit 66), (nat_lit 67), (nat_lit 68), (nat_lit 69), (nat_lit 70), (nat_lit 71), (nat_lit 72), (nat_lit 73), (nat_lit 74), (nat_lit 75), (nat_lit 76), (nat_lit 77), (nat_lit 78), (nat_lit 79), (nat_lit 80), (nat_lit 81), (nat_lit 82), (nat_lit 83), (nat_lit 84), (nat_lit 85), (nat_lit 86), (nat_lit 87), (nat_lit 88), (nat_lit 89), (nat_lit 90), (nat_lit 97), (nat_lit 98), (nat_lit 99), (nat_lit 100), (nat_lit 101), (nat_lit 102), (nat_lit 103), (nat_lit 104), (nat_lit 105), (nat_lit 106), (nat_lit 107), (nat_lit 108), (nat_lit 109), (nat_lit 110), (nat_lit 111), (nat_lit 112), (nat_lit 113), (nat_lit 114), (nat_lit 115), (nat_lit 116), (nat_lit 117), (nat_lit 118), (nat_lit 119), (nat_lit 120), (nat_lit 121), (nat_lit 122)]) (Array.mk []) (nat_lit 0) (!P.followText "set-order") (nat_lit 2) true)) (Array.mk []))
noncomputable def bO22_654 (P : Params) : Obj := (.mk (.type "bytes_iterator") .none (.fields (Array.mk [(.bytes BTS (nat_lit 1092)), (.int (.ofNat (nat_lit 64)) (nat_lit 0))])) (Array.mk []))
noncomputable def bT22 (P : Params) : BT := (BT.ins (BT.ins (bT21 P) (nat_lit 653) (bO22_653 P)) (nat_lit 654) (bO22_654 P))
noncomputable def bS22 (w : World) (os : OsState) : SharedT := ⟨bT22 w.params, nat_lit 655, {}, Array.mk [.finished], {}, nat_lit 1225, os⟩
noncomputable def bO23_654 (P : Params) : Obj := (.mk (.type "bytes_iterator") .none (.fields (Array.mk [.none, (.int (.ofNat (nat_lit 64)) (nat_lit 0))])) (Array.mk []))
noncomputable def bO23_655 (P : Params) : Obj := (.mk (.type "tuple") .none (.seq (Array.mk []) (nat_lit 0)) (Array.mk []))
noncomputable def bO23_656 (P : Params) : Obj := (.mk (.type "StopIteration") .none (.fields (Array.mk [(.ref (nat_lit 655)), .none, .none, .none, (.bool false), .none])) (Array.mk []))
noncomputable def bT23 (P : Params) : BT := (BT.ins (BT.ins (BT.ins (bT22 P) (nat_lit 654) (bO23_654 P)) (nat_lit 655) (bO23_655 P)) (nat_lit 656) (bO23_656 P))
noncomputable def bS23 (w : World) (os : OsState) : SharedT := ⟨bT23 w.params, nat_lit 657, {}, Array.mk [.finished], {}, nat_lit 1225, os⟩
noncomputable def bTh23 (k0 k1 k2 k3 k4 : Result → Sem Fin) : Thread := ⟨(.pure (.done (.ret .none))), (.builtin "set.update.loop" (.mk [(.ref (nat_lit 653)), (.ref (nat_lit 654))] [])), (.mk (nat_lit 49) (nat_lit 15) (nat_lit 49) (nat_lit 27)), [(.ret k0 .none false [] (.builtin "set.__init__" (.mk [(.ref (nat_lit 653)), (.bytes BTS (nat_lit 1092))] [])) (.mk (nat_lit 49) (nat_lit 15) (nat_lit 49) (nat_lit 27)) [(.ref (nat_lit 653)), (.ref (nat_lit 654))]),
    (.ret k1 .none false [(.ref (nat_lit 653)), (.ref (nat_lit 653))] (.builtin "type.__call__" (.mk [(.type "set"), (.bytes BTS (nat_lit 1092))] [])) (.mk (nat_lit 49) (nat_lit 15) (nat_lit 49) (nat_lit 27)) [(.builtin "set.__init__"), (.ref (nat_lit 653)), (.bytes BTS (nat_lit 1092)), (.builtin "set.__init__"), (.ref (nat_lit 653)), (.bytes BTS (nat_lit 1092))]),
    (.ret k2 .none false [] (.func IB (.mk gSi (nat_lit 652) (nat_lit 3) [] n33 (.some (nat_lit 100)) (.ref (nat_lit 99)) (.some (nat_lit 652)) (nat_lit 0))) (.mk (nat_lit 49) (nat_lit 15) (nat_lit 49) (nat_lit 27)) [(.type "set"), (.bytes BTS (nat_lit 1092))]),
    (.ret k3 .none false [(.ref (nat_lit 651)), (.ref (nat_lit 651))] (.builtin "type.__call__" (.mk [(.ref (nat_lit 302)), (.str n34 (nat_lit 282))] [(n23, (.bool true))])) (.mk (nat_lit 273) (nat_lit 9) (nat_lit 273) (nat_lit 49)) [(.ref (nat_lit 100)), (.ref (nat_lit 651)), (.str n34 (nat_lit 282)), (.bool true)]),
    (.ret k4 .none false [] (.body MB ME) (.mk (nat_lit 273) (nat_lit 9) (nat_lit 273) (nat_lit 49)) [(.ref (nat_lit 302)), (.builtin "type.__call__"), (.ref (nat_lit 302)), (.str n34 (nat_lit 282)), (.bool true)]), CF]⟩
noncomputable def bO24_650 (P : Params) : Obj := (.mk (.type "dict") .none (.dict (Array.mk [(.mk (KH P n13) (.str n13 (nat_lit 1229)) (.bytes BTS (nat_lit 1092))), (.mk (KH P n14) (.str n14 (nat_lit 1232)) (.ref (nat_lit 657)))]) (nat_lit 2)) (Array.mk []))
noncomputable def bO24_657 (P : Params) : Obj := (.mk (.type "method-wrapper") .none (.fields (Array.mk [(.builtin "bytes.__getitem__"), (.bytes BTS (nat_lit 1092))])) (Array.mk []))
noncomputable def bO24_658 (P : Params) : Obj := (.mk (.type "bytes_iterator") .none (.fields (Array.mk [(.bytes BTS (nat_lit 1092)), (.int (.ofNat (nat_lit 0)) (nat_lit 0))])) (Array.mk []))
noncomputable def bO24_659 (P : Params) : Obj := (.mk (.type "enumerate") .none (.fields (Array.mk [.none, (.bool false), (.ref (nat_lit 658)), (.int (.ofNat (nat_lit 0)) (nat_lit 0)), .none, .none])) (Array.mk []))
noncomputable def bO24_660 (P : Params) : Obj := (.mk (.type "frame") .none (.dict (Array.mk [(.mk (KH P n21) (.str n21 (nat_lit 1233)) (.ref (nat_lit 659)))]) (nat_lit 1)) (Array.mk []))
noncomputable def bO24_661 (P : Params) : Obj := (.mk (.type "generator") .none (.fields (Array.mk [(.int (.ofNat (nat_lit 1)) (nat_lit 0)), (.str n35 (nat_lit 1234)), (.str n36 (nat_lit 1235))])) (Array.mk []))
noncomputable def bO24_662 (P : Params) : Obj := (.mk (.type "dict") .none (.dict (Array.mk []) (nat_lit 0)) (Array.mk []))
noncomputable def bO24_663 (P : Params) : Obj := (.mk (.type "tuple") .none (.seq (Array.mk [(.str n38 (nat_lit 1237))]) (nat_lit 0)) (Array.mk []))
noncomputable def bO24_664 (P : Params) : Obj := (.mk (.type "AttributeError") .none (.fields (Array.mk [(.ref (nat_lit 663)), .none, .none, .none, (.bool false), .none, (.str n39 (nat_lit 1238)), (.ref (nat_lit 661))])) (Array.mk []))
noncomputable def bT24 (P : Params) : BT := (BT.ins (BT.ins (BT.ins (BT.ins (BT.ins (BT.ins (BT.ins (BT.ins (BT.ins (bT23 P) (nat_lit 650) (bO24_650 P)) (nat_lit 657) (bO24_657 P)) (nat_lit 658) (bO24_658 P)) (nat_lit 659) (bO24_659 P)) (nat_lit 660) (bO24_660 P)) (nat_lit 661) (bO24_661 P)) (nat_lit 662) (bO24_662 P)) (nat_lit 663) (bO24_663 P)) (nat_lit 664) (bO24_664 P))
noncomputable def bS24 (w : World) (os : OsState) : SharedT := ⟨bT24 w.params, nat_lit 665, {}, Array.mk [.finished, .fresh (.compStart gE (nat_lit 0) (.ref (nat_lit 659)) .none (.mk gSc (nat_lit 660) (nat_lit 3) [] n40 .none (.ref (nat_lit 317)) (.some (nat_lit 660)) (nat_lit 0)))], {}, nat_lit 1239, os⟩
noncomputable def bTh24 (k0 k1 k2 k3 : Result → Sem Fin) : Thread := ⟨(DEN (.builtin "dict.update.loop" (.mk [(.ref (nat_lit 662)), (.ref (nat_lit 661)), (.int (.ofNat (nat_lit 0)) (nat_lit 0)), .none] []))), (.builtin "dict.update.loop" (.mk [(.ref (nat_lit 662)), (.ref (nat_lit 661)), (.int (.ofNat (nat_lit 0)) (nat_lit 0)), .none] [])), (.mk (nat_lit 53) (nat_lit 17) (nat_lit 53) (nat_lit 74)), [(.ret k0 .none false [(.ref (nat_lit 662)), (.ref (nat_lit 662)), (.ref (nat_lit 661))] (.builtin "type.__call__" (.mk [(.type "dict"), (.ref (nat_lit 661))] [])) (.mk (nat_lit 53) (nat_lit 17) (nat_lit 53) (nat_lit 74)) [(.builtin "dict.__init__"), (.ref (nat_lit 662)), (.ref (nat_lit 661)), (.builtin "dict.__init__"), (.ref (nat_lit 662)), (.ref (nat_lit 661))]),
    (.ret k1 .none false [] (.func IB (.mk gSi (nat_lit 652) (nat_lit 3) [] n33 (.some (nat_lit 100)) (.ref (nat_lit 99)) (.some (nat_lit 652)) (nat_lit 0))) (.mk (nat_lit 53) (nat_lit 17) (nat_lit 53) (nat_lit 74)) [(.type "dict"), (.ref (nat_lit 661))]),
    (.ret k2 .none false [(.ref (nat_lit 651)), (.ref (nat_lit 651))] (.builtin "type.__call__" (.mk [(.ref (nat_lit 302)), (.str n34 (nat_lit 282))] [(n23, (.bool true))])) (.mk (nat_lit 273) (nat_lit 9) (nat_lit 273) (nat_lit 49)) [(.ref (nat_lit 100)), (.ref (nat_lit 651)), (.str n34 (nat_lit 282)), (.bool true)]),
    (.ret k3 .none false [] (.body MB ME) (.mk (nat_lit 273) (nat_lit 9) (nat_lit 273) (nat_lit 49)) [(.ref (nat_lit 302)), (.builtin "type.__call__"), (.ref (nat_lit 302)), (.str n34 (nat_lit 282)), (.bool true)]), CF]⟩
noncomputable def bSus (G : Resume → Sem Fin) : GenState := .suspended G [] (.compLoop gE (nat_lit 0) (.ref (nat_lit 659)) .none (.mk gSc (nat_lit 660) (nat_lit 3) [] n40 .none (.ref (nat_lit 317)) (.some (nat_lit 660)) (nat_lit 0))) (.mk (nat_lit 53) (nat_lit 23) (nat_lit 53) (nat_lit 35)) [] false
noncomputable def bThL (k : Nat) (k0 k1 k2 k3 : Result → Sem Fin) : Thread := ⟨(DEN (.builtin "dict.update.loop" (.mk [(.ref (nat_lit 662)), (.ref (nat_lit 661)), (vi k (nat_lit 0)), .none] []))), (.builtin "dict.update.loop" (.mk [(.ref (nat_lit 662)), (.ref (nat_lit 661)), (vi k (nat_lit 0)), .none] [])), (.mk (nat_lit 53) (nat_lit 17) (nat_lit 53) (nat_lit 74)), [(.ret k0 .none false [(.ref (nat_lit 662)), (.ref (nat_lit 662)), (.ref (nat_lit 661))] (.builtin "type.__call__" (.mk [(.type "dict"), (.ref (nat_lit 661))] [])) (.mk (nat_lit 53) (nat_lit 17) (nat_lit 53) (nat_lit 74)) [(.builtin "dict.__init__"), (.ref (nat_lit 662)), (.ref (nat_lit 661)), (.builtin "dict.__init__"), (.ref (nat_lit 662)), (.ref (nat_lit 661))]),
    (.ret k1 .none false [] (.func IB (.mk gSi (nat_lit 652) (nat_lit 3) [] n33 (.some (nat_lit 100)) (.ref (nat_lit 99)) (.some (nat_lit 652)) (nat_lit 0))) (.mk (nat_lit 53) (nat_lit 17) (nat_lit 53) (nat_lit 74)) [(.type "dict"), (.ref (nat_lit 661))]),
    (.ret k2 .none false [(.ref (nat_lit 651)), (.ref (nat_lit 651))] (.builtin "type.__call__" (.mk [(.ref (nat_lit 302)), (.str n34 (nat_lit 282))] [(n23, (.bool true))])) (.mk (nat_lit 273) (nat_lit 9) (nat_lit 273) (nat_lit 49)) [(.ref (nat_lit 100)), (.ref (nat_lit 651)), (.str n34 (nat_lit 282)), (.bool true)]),
    (.ret k3 .none false [] (.body MB ME) (.mk (nat_lit 273) (nat_lit 9) (nat_lit 273) (nat_lit 49)) [(.ref (nat_lit 302)), (.builtin "type.__call__"), (.ref (nat_lit 302)), (.str n34 (nat_lit 282)), (.bool true)]), CF]⟩
noncomputable def bOd_658 (P : Params) : Obj := (.mk (.type "bytes_iterator") .none (.fields (Array.mk [.none, (.int (.ofNat (nat_lit 64)) (nat_lit 0))])) (Array.mk []))
noncomputable def bOd_985 (P : Params) : Obj := (.mk (.type "tuple") .none (.seq (Array.mk []) (nat_lit 0)) (Array.mk []))
noncomputable def bOd_986 (P : Params) : Obj := (.mk (.type "StopIteration") .none (.fields (Array.mk [(.ref (nat_lit 985)), .none, .none, .none, (.bool false), .none])) (Array.mk []))
noncomputable def bOd_987 (P : Params) : Obj := (.mk (.type "tuple") .none (.seq (Array.mk []) (nat_lit 0)) (Array.mk []))
noncomputable def bOd_988 (P : Params) : Obj := (.mk (.type "StopIteration") .none (.fields (Array.mk [(.ref (nat_lit 987)), .none, .none, .none, (.bool false), .none])) (Array.mk []))
noncomputable def bTd (P : Params) : BT := (BT.ins (BT.ins (BT.ins (BT.ins (BT.ins (lT bC bT24 (nat_lit 64) P) (nat_lit 658) (bOd_658 P)) (nat_lit 985) (bOd_985 P)) (nat_lit 986) (bOd_986 P)) (nat_lit 987) (bOd_987 P)) (nat_lit 988) (bOd_988 P))
noncomputable def bSd (w : World) (os : OsState) : SharedT := ⟨bTd w.params, nat_lit 989, {}, Array.mk [.finished, .finished], {}, nat_lit 1559, os⟩
noncomputable def bThD (k0 k1 k2 k3 : Result → Sem Fin) : Thread := ⟨(.pure (.done (.ret .none))), (.builtin "dict.update.loop" (.mk [(.ref (nat_lit 662)), (.ref (nat_lit 661)), (.int (.ofNat (nat_lit 64)) (nat_lit 0)), .none] [])), (.mk (nat_lit 53) (nat_lit 17) (nat_lit 53) (nat_lit 74)), [(.ret k0 .none false [(.ref (nat_lit 662)), (.ref (nat_lit 662)), (.ref (nat_lit 661))] (.builtin "type.__call__" (.mk [(.type "dict"), (.ref (nat_lit 661))] [])) (.mk (nat_lit 53) (nat_lit 17) (nat_lit 53) (nat_lit 74)) [(.builtin "dict.__init__"), (.ref (nat_lit 662)), (.ref (nat_lit 661)), (.builtin "dict.__init__"), (.ref (nat_lit 662)), (.ref (nat_lit 661))]),
    (.ret k1 .none false [] (.func IB (.mk gSi (nat_lit 652) (nat_lit 3) [] n33 (.some (nat_lit 100)) (.ref (nat_lit 99)) (.some (nat_lit 652)) (nat_lit 0))) (.mk (nat_lit 53) (nat_lit 17) (nat_lit 53) (nat_lit 74)) [(.type "dict"), (.ref (nat_lit 661))]),
    (.ret k2 .none false [(.ref (nat_lit 651)), (.ref (nat_lit 651))] (.builtin "type.__call__" (.mk [(.ref (nat_lit 302)), (.str n34 (nat_lit 282))] [(n23, (.bool true))])) (.mk (nat_lit 273) (nat_lit 9) (nat_lit 273) (nat_lit 49)) [(.ref (nat_lit 100)), (.ref (nat_lit 651)), (.str n34 (nat_lit 282)), (.bool true)]),
    (.ret k3 .none false [] (.body MB ME) (.mk (nat_lit 273) (nat_lit 9) (nat_lit 273) (nat_lit 49)) [(.ref (nat_lit 302)), (.builtin "type.__call__"), (.ref (nat_lit 302)), (.str n34 (nat_lit 282)), (.bool true)]), CF]⟩
noncomputable def bOe_3 (P : Params) : Obj := (.mk (.type "dict") .none (.dict (Array.mk [(.mk (KH P n41) (.str n41 (nat_lit 165)) (.str n42 (nat_lit 280))), (.mk (KH P n43) (.str n43 (nat_lit 166)) .none), (.mk (KH P n44) (.str n44 (nat_lit 167)) .none), (.mk (KH P n45) (.str n45 (nat_lit 168)) (.builtin "__main__.__loader__#opaque")), (.mk (KH P n46) (.str n46 (nat_lit 169)) .none), (.mk (KH P n47) (.str n47 (nat_lit 170)) (.ref (nat_lit 6))), (.mk (KH P n48) (.str n48 (nat_lit 171)) (.ref (nat_lit 4))), (.mk (KH P n49) (.str n49 (nat_lit 173)) (.str n37 (nat_lit 172))), (.mk (KH P n50) (.str n50 (nat_lit 174)) .none), (.mk (KH P n51) (.str n51 (nat_lit 193)) (.ref (nat_lit 21))), (.mk (KH P n52) (.str n52 (nat_lit 204)) (.ref (nat_lit 28))), (.mk (KH P n53) (.str n53 (nat_lit 224)) (.ref (nat_lit 38))), (.mk (KH P n54) (.str n54 (nat_lit 231)) (.ref (nat_lit 48))), (.mk (KH P n55) (.str n55 (nat_lit 240)) (.ref (nat_lit 55))), (.mk (KH P n6) (.str n6 (nat_lit 248)) (.ref (nat_lit 62))), (.mk (KH P n56) (.str n56 (nat_lit 256)) (.ref (nat_lit 70))), (.mk (KH P n57) (.str n57 (nat_lit 259)) (.bool true)), (.mk (KH P n2) (.str n2 (nat_lit 260)) (.type "str")), (.mk (KH P n58) (.str n58 (nat_lit 261)) (.type "bytes")), (.mk (KH P n59) (.str n59 (nat_lit 262)) (.type "bytes")), (.mk (KH P n60) (.str n60 (nat_lit 269)) (.ref (nat_lit 77))), (.mk (KH P n61) (.str n61 (nat_lit 270)) (.ref (nat_lit 78))), (.mk (KH P n62) (.str n62 (nat_lit 271)) (.type "range")), (.mk (KH P n63) (.str n63 (nat_lit 272)) (.type "map")), (.mk (KH P n64) (.str n64 (nat_lit 279)) (.ref (nat_lit 85))), (.mk (KH P n32) (.str n32 (nat_lit 283)) (.str n34 (nat_lit 282))), (.mk (KH P n65) (.str n65 (nat_lit 581)) (.ref (nat_lit 288))), (.mk (KH P n31) (.str n31 (nat_lit 598)) (.ref (nat_lit 302))), (.mk (KH P n30) (.str n30 (nat_lit 1087)) (.ref (nat_lit 306))), (.mk (KH P n66) (.str n66 (nat_lit 1571)) (.ref (nat_lit 651)))]) (nat_lit 30)) (Array.mk []))
noncomputable def bOe_650 (P : Params) : Obj := (.mk (.type "dict") .none (.dict (Array.mk [(.mk (KH P n13) (.str n13 (nat_lit 1229)) (.bytes BTS (nat_lit 1092))), (.mk (KH P n14) (.str n14 (nat_lit 1232)) (.ref (nat_lit 657))), (.mk (KH P n22) (.str n22 (nat_lit 1562)) (.ref (nat_lit 989))), (.mk (KH P n23) (.str n23 (nat_lit 1564)) (.bool true)), (.mk (KH P n24) (.str n24 (nat_lit 1567)) (.ref (nat_lit 990))), (.mk (KH P n26) (.str n26 (nat_lit 1570)) (.ref (nat_lit 991)))]) (nat_lit 6)) (Array.mk []))
noncomputable def bOe_652 (P : Params) : Obj := (.mk (.type "frame") .none (.dict (Array.mk [(.mk (KH P n12) (.str n12 (nat_lit 1088)) (.ref (nat_lit 651))), (.mk (KH P n1) (.str n1 (nat_lit 1089)) (.bytes BTS (nat_lit 1092))), (.mk (KH P n23) (.str n23 (nat_lit 1090)) (.bool true)), (.mk (KH P n16) (.str n16 (nat_lit 1559)) (.ref (nat_lit 662)))]) (nat_lit 4)) (Array.mk []))
noncomputable def bOe_989 (P : Params) : Obj := (.mk (.type "builtin_function_or_method") .none (.fields (Array.mk [(.builtin "dict.__getitem__"), (.ref (nat_lit 662))])) (Array.mk []))
noncomputable def bOe_990 (P : Params) : Obj := (.mk (.type "method") .none (.fields (Array.mk [(.ref (nat_lit 129)), (.ref (nat_lit 651))])) (Array.mk []))
noncomputable def bOe_991 (P : Params) : Obj := (.mk (.type "method") .none (.fields (Array.mk [(.ref (nat_lit 150)), (.ref (nat_lit 651))])) (Array.mk []))
noncomputable def bTe (P : Params) : BT := (BT.ins (BT.ins (BT.ins (BT.ins (BT.ins (BT.ins (bTd P) (nat_lit 3) (bOe_3 P)) (nat_lit 650) (bOe_650 P)) (nat_lit 652) (bOe_652 P)) (nat_lit 989) (bOe_989 P)) (nat_lit 990) (bOe_990 P)) (nat_lit 991) (bOe_991 P))
noncomputable def bSe (w : World) (os : OsState) : SharedT := ⟨bTe w.params, nat_lit 992, {}, Array.mk [.finished, .finished], {}, nat_lit 1572, os⟩

noncomputable def bL (k : Nat) (w : World) (os : OsState) (G : Resume → Sem Fin) : SharedT := ⟨lT bC bT24 k w.params, Nat.add bC.n0 (Nat.mul (nat_lit 5) k), {}, Array.mk [.finished, bSus G], {}, Nat.add bC.t0 (Nat.mul (nat_lit 5) k), os⟩

noncomputable def rE0 (P : Params) : Array DictEntry := Array.mk [(.mk (KH P n41) (.str n41 (nat_lit 165)) (.str n42 (nat_lit 280))), (.mk (KH P n43) (.str n43 (nat_lit 166)) .none), (.mk (KH P n44) (.str n44 (nat_lit 167)) .none), (.mk (KH P n45) (.str n45 (nat_lit 168)) (.builtin "__main__.__loader__#opaque")), (.mk (KH P n46) (.str n46 (nat_lit 169)) .none), (.mk (KH P n47) (.str n47 (nat_lit 170)) (.ref (nat_lit 6))), (.mk (KH P n48) (.str n48 (nat_lit 171)) (.ref (nat_lit 4))), (.mk (KH P n49) (.str n49 (nat_lit 173)) (.str n37 (nat_lit 172))), (.mk (KH P n50) (.str n50 (nat_lit 174)) .none), (.mk (KH P n51) (.str n51 (nat_lit 193)) (.ref (nat_lit 21))), (.mk (KH P n52) (.str n52 (nat_lit 204)) (.ref (nat_lit 28))), (.mk (KH P n53) (.str n53 (nat_lit 224)) (.ref (nat_lit 38))), (.mk (KH P n54) (.str n54 (nat_lit 231)) (.ref (nat_lit 48))), (.mk (KH P n55) (.str n55 (nat_lit 240)) (.ref (nat_lit 55))), (.mk (KH P n6) (.str n6 (nat_lit 248)) (.ref (nat_lit 62))), (.mk (KH P n56) (.str n56 (nat_lit 256)) (.ref (nat_lit 70))), (.mk (KH P n57) (.str n57 (nat_lit 259)) (.bool true)), (.mk (KH P n2) (.str n2 (nat_lit 260)) (.type "str")), (.mk (KH P n58) (.str n58 (nat_lit 261)) (.type "bytes")), (.mk (KH P n59) (.str n59 (nat_lit 262)) (.type "bytes")), (.mk (KH P n60) (.str n60 (nat_lit 269)) (.ref (nat_lit 77))), (.mk (KH P n61) (.str n61 (nat_lit 270)) (.ref (nat_lit 78))), (.mk (KH P n62) (.str n62 (nat_lit 271)) (.type "range")), (.mk (KH P n63) (.str n63 (nat_lit 272)) (.type "map")), (.mk (KH P n64) (.str n64 (nat_lit 279)) (.ref (nat_lit 85))), (.mk (KH P n32) (.str n32 (nat_lit 283)) (.str n34 (nat_lit 282))), (.mk (KH P n65) (.str n65 (nat_lit 581)) (.ref (nat_lit 288))), (.mk (KH P n31) (.str n31 (nat_lit 598)) (.ref (nat_lit 302))), (.mk (KH P n30) (.str n30 (nat_lit 1087)) (.ref (nat_lit 306))), (.mk (KH P n66) (.str n66 (nat_lit 1571)) (.ref (nat_lit 651)))]
noncomputable def rE1 (P : Params) : Array DictEntry := Array.mk [(.mk (KH P n41) (.str n41 (nat_lit 165)) (.str n67 (nat_lit 1572))), (.mk (KH P n43) (.str n43 (nat_lit 166)) .none), (.mk (KH P n44) (.str n44 (nat_lit 167)) .none), (.mk (KH P n45) (.str n45 (nat_lit 168)) (.builtin "__main__.__loader__#opaque")), (.mk (KH P n46) (.str n46 (nat_lit 169)) .none), (.mk (KH P n47) (.str n47 (nat_lit 170)) (.ref (nat_lit 6))), (.mk (KH P n48) (.str n48 (nat_lit 171)) (.ref (nat_lit 4))), (.mk (KH P n49) (.str n49 (nat_lit 173)) (.str n37 (nat_lit 172))), (.mk (KH P n50) (.str n50 (nat_lit 174)) .none), (.mk (KH P n51) (.str n51 (nat_lit 193)) (.ref (nat_lit 21))), (.mk (KH P n52) (.str n52 (nat_lit 204)) (.ref (nat_lit 28))), (.mk (KH P n53) (.str n53 (nat_lit 224)) (.ref (nat_lit 38))), (.mk (KH P n54) (.str n54 (nat_lit 231)) (.ref (nat_lit 48))), (.mk (KH P n55) (.str n55 (nat_lit 240)) (.ref (nat_lit 55))), (.mk (KH P n6) (.str n6 (nat_lit 248)) (.ref (nat_lit 62))), (.mk (KH P n56) (.str n56 (nat_lit 256)) (.ref (nat_lit 70))), (.mk (KH P n57) (.str n57 (nat_lit 259)) (.bool true)), (.mk (KH P n2) (.str n2 (nat_lit 260)) (.type "str")), (.mk (KH P n58) (.str n58 (nat_lit 261)) (.type "bytes")), (.mk (KH P n59) (.str n59 (nat_lit 262)) (.type "bytes")), (.mk (KH P n60) (.str n60 (nat_lit 269)) (.ref (nat_lit 77))), (.mk (KH P n61) (.str n61 (nat_lit 270)) (.ref (nat_lit 78))), (.mk (KH P n62) (.str n62 (nat_lit 271)) (.type "range")), (.mk (KH P n63) (.str n63 (nat_lit 272)) (.type "map")), (.mk (KH P n64) (.str n64 (nat_lit 279)) (.ref (nat_lit 85))), (.mk (KH P n32) (.str n32 (nat_lit 283)) (.str n34 (nat_lit 282))), (.mk (KH P n65) (.str n65 (nat_lit 581)) (.ref (nat_lit 288))), (.mk (KH P n31) (.str n31 (nat_lit 598)) (.ref (nat_lit 302))), (.mk (KH P n30) (.str n30 (nat_lit 1087)) (.ref (nat_lit 306))), (.mk (KH P n66) (.str n66 (nat_lit 1571)) (.ref (nat_lit 651))), (.mk (KH P n68) (.str n68 (nat_lit 1575)) (.int (.ofNat (nat_lit 16777215)) (nat_lit 1574))), (.mk (KH P n69) (.str n69 (nat_lit 1577)) (.int (.ofNat (nat_lit 18446744073709551615)) (nat_lit 1576))), (.mk (KH P n70) (.str n70 (nat_lit 1579)) (.int (.ofNat (nat_lit 18229723555245850623)) (nat_lit 1578)))]
noncomputable def r1_3 (P : Params) : Obj := ⟨(.type "dict"), .none, .dict (rE1 P) (nat_lit 33), (Array.mk [])⟩
noncomputable def r1T (P : Params) : BT := (BT.ins (bTe P) (nat_lit 3) (r1_3 P))
noncomputable def r1S (w : World) (os : OsState) : SharedT := ⟨r1T w.params, nat_lit 992, {}, Array.mk [.finished, .finished], {}, nat_lit 1580, os⟩
noncomputable def rE2 (P : Params) : Array DictEntry := (Array.push (rE1 P) (.mk (KH P n71) (.str n71 (nat_lit 1836)) (.ref (nat_lit 1008))))
noncomputable def r2_3 (P : Params) : Obj := ⟨(.type "dict"), .none, .dict (rE2 P) (nat_lit 34), (Array.mk [])⟩
noncomputable def r2_992 (P : Params) : Obj := (.mk (.type "tuple") .none (.seq (Array.mk [(.int (.ofNat (nat_lit 0)) (nat_lit 1580)), (.int (.ofNat (nat_lit 0)) (nat_lit 1581)), (.int (.ofNat (nat_lit 8192)) (nat_lit 1582)), (.int (.ofNat (nat_lit 8192)) (nat_lit 1583)), (.int (.ofNat (nat_lit 32)) (nat_lit 1584)), (.int (.ofNat (nat_lit 32)) (nat_lit 1585)), (.int (.ofNat (nat_lit 8224)) (nat_lit 1586)), (.int (.ofNat (nat_lit 8224)) (nat_lit 1587)), (.int (.ofNat (nat_lit 1024)) (nat_lit 1588)), (.int (.ofNat (nat_lit 1024)) (nat_lit 1589)), (.int (.ofNat (nat_lit 9216)) (nat_lit 1590)), (.int (.ofNat (nat_lit 9216)) (nat_lit 1591)), (.int (.ofNat (nat_lit 1056)) (nat_lit 1592)), (.int (.ofNat (nat_lit 1056)) (nat_lit 1593)), (.int (.ofNat (nat_lit 9248)) (nat_lit 1594)), (.int (.ofNat (nat_lit 9248)) (nat_lit 1595))]) (nat_lit 0)) (Array.mk []))
noncomputable def r2_993 (P : Params) : Obj := (.mk (.type "tuple") .none (.seq (Array.mk [(.int (.ofNat (nat_lit 0)) (nat_lit 1596)), (.int (.ofNat (nat_lit 2305843009213693952)) (nat_lit 1597)), (.int (.ofNat (nat_lit 17179869184)) (nat_lit 1598)), (.int (.ofNat (nat_lit 2305843026393563136)) (nat_lit 1599)), (.int (.ofNat (nat_lit 140737488355328)) (nat_lit 1600)), (.int (.ofNat (nat_lit 2305983746702049280)) (nat_lit 1601)), (.int (.ofNat (nat_lit 140754668224512)) (nat_lit 1602)), (.int (.ofNat (nat_lit 2305983763881918464)) (nat_lit 1603)), (.int (.ofNat (nat_lit 2251799813685248)) (nat_lit 1604)), (.int (.ofNat (nat_lit 2308094809027379200)) (nat_lit 1605)), (.int (.ofNat (nat_lit 2251816993554432)) (nat_lit 1606)), (.int (.ofNat (nat_lit 2308094826207248384)) (nat_lit 1607)), (.int (.ofNat (nat_lit 2392537302040576)) (nat_lit 1608)), (.int (.ofNat (nat_lit 2308235546515734528)) (nat_lit 1609)), (.int (.ofNat (nat_lit 2392554481909760)) (nat_lit 1610)), (.int (.ofNat (nat_lit 2308235563695603712)) (nat_lit 1611))]) (nat_lit 0)) (Array.mk []))
noncomputable def r2_994 (P : Params) : Obj := (.mk (.type "tuple") .none (.seq (Array.mk [(.int (.ofNat (nat_lit 0)) (nat_lit 1612)), (.int (.ofNat (nat_lit 0)) (nat_lit 1613)), (.int (.ofNat (nat_lit 64)) (nat_lit 1614)), (.int (.ofNat (nat_lit 64)) (nat_lit 1615)), (.int (.ofNat (nat_lit 536870912)) (nat_lit 1616)), (.int (.ofNat (nat_lit 536870912)) (nat_lit 1617)), (.int (.ofNat (nat_lit 536870976)) (nat_lit 1618)), (.int (.ofNat (nat_lit 536870976)) (nat_lit 1619)), (.int (.ofNat (nat_lit 2097152)) (nat_lit 1620)), (.int (.ofNat (nat_lit 2097152)) (nat_lit 1621)), (.int (.ofNat (nat_lit 2097216)) (nat_lit 1622)), (.int (.ofNat (nat_lit 2097216)) (nat_lit 1623)), (.int (.ofNat (nat_lit 538968064)) (nat_lit 1624)), (.int (.ofNat (nat_lit 538968064)) (nat_lit 1625)), (.int (.ofNat (nat_lit 538968128)) (nat_lit 1626)), (.int (.ofNat (nat_lit 538968128)) (nat_lit 1627))]) (nat_lit 0)) (Array.mk []))
noncomputable def r2_995 (P : Params) : Obj := (.mk (.type "tuple") .none (.seq (Array.mk [(.int (.ofNat (nat_lit 0)) (nat_lit 1628)), (.int (.ofNat (nat_lit 562949953421312)) (nat_lit 1629)), (.int (.ofNat (nat_lit 576460752303423488)) (nat_lit 1630)), (.int (.ofNat (nat_lit 577023702256844800)) (nat_lit 1631)), (.int (.ofNat (nat_lit 72057594037927936)) (nat_lit 1632)), (.int (.ofNat (nat_lit 72620543991349248)) (nat_lit 1633)), (.int (.ofNat (nat_lit 648518346341351424)) (nat_lit 1634)), (.int (.ofNat (nat_lit 649081296294772736)) (nat_lit 1635)), (.int (.ofNat (nat_lit 4611686018427387904)) (nat_lit 1636)), (.int (.ofNat (nat_lit 4612248968380809216)) (nat_lit 1637)), (.int (.ofNat (nat_lit 5188146770730811392)) (nat_lit 1638)), (.int (.ofNat (nat_lit 5188709720684232704)) (nat_lit 1639)), (.int (.ofNat (nat_lit 4683743612465315840)) (nat_lit 1640)), (.int (.ofNat (nat_lit 4684306562418737152)) (nat_lit 1641)), (.int (.ofNat (nat_lit 5260204364768739328)) (nat_lit 1642)), (.int (.ofNat (nat_lit 5260767314722160640)) (nat_lit 1643))]) (nat_lit 0)) (Array.mk []))
noncomputable def r2_996 (P : Params) : Obj := (.mk (.type "tuple") .none (.seq (Array.mk [(.int (.ofNat (nat_lit 0)) (nat_lit 1644)), (.int (.ofNat (nat_lit 0)) (nat_lit 1645)), (.int (.ofNat (nat_lit 262144)) (nat_lit 1646)), (.int (.ofNat (nat_lit 262144)) (nat_lit 1647)), (.int (.ofNat (nat_lit 2199023255552)) (nat_lit 1648)), (.int (.ofNat (nat_lit 2199023255552)) (nat_lit 1649)), (.int (.ofNat (nat_lit 2199023517696)) (nat_lit 1650)), (.int (.ofNat (nat_lit 2199023517696)) (nat_lit 1651)), (.int (.ofNat (nat_lit 4)) (nat_lit 1652)), (.int (.ofNat (nat_lit 4)) (nat_lit 1653)), (.int (.ofNat (nat_lit 262148)) (nat_lit 1654)), (.int (.ofNat (nat_lit 262148)) (nat_lit 1655)), (.int (.ofNat (nat_lit 2199023255556)) (nat_lit 1656)), (.int (.ofNat (nat_lit 2199023255556)) (nat_lit 1657)), (.int (.ofNat (nat_lit 2199023517700)) (nat_lit 1658)), (.int (.ofNat (nat_lit 2199023517700)) (nat_lit 1659))]) (nat_lit 0)) (Array.mk []))
noncomputable def r2_997 (P : Params) : Obj := (.mk (.type "tuple") .none (.seq (Array.mk [(.int (.ofNat (nat_lit 0)) (nat_lit 1660)), (.int (.ofNat (nat_lit 70368744177664)) (nat_lit 1661)), (.int (.ofNat (nat_lit 144115188075855872)) (nat_lit 1662)), (.int (.ofNat (nat_lit 144185556820033536)) (nat_lit 1663)), (.int (.ofNat (nat_lit 36028797018963968)) (nat_lit 1664)), (.int (.ofNat (nat_lit 36099165763141632)) (nat_lit 1665)), (.int (.ofNat (nat_lit 180143985094819840)) (nat_lit 1666)), (.int (.ofNat (nat_lit 180214353838997504)) (nat_lit 1667)), (.int (.ofNat (nat_lit 549755813888)) (nat_lit 1668)), (.int (.ofNat (nat_lit 70918499991552)) (nat_lit 1669)), (.int (.ofNat (nat_lit 144115737831669760)) (nat_lit 1670)), (.int (.ofNat (nat_lit 144186106575847424)) (nat_lit 1671)), (.int (.ofNat (nat_lit 36029346774777856)) (nat_lit 1672)), (.int (.ofNat (nat_lit 36099715518955520)) (nat_lit 1673)), (.int (.ofNat (nat_lit 180144534850633728)) (nat_lit 1674)), (.int (.ofNat (nat_lit 180214903594811392)) (nat_lit 1675))]) (nat_lit 0)) (Array.mk []))
noncomputable def r2_998 (P : Params) : Obj := (.mk (.type "tuple") .none (.seq (Array.mk [(.int (.ofNat (nat_lit 0)) (nat_lit 1676)), (.int (.ofNat (nat_lit 0)) (nat_lit 1677)), (.int (.ofNat (nat_lit 268435456)) (nat_lit 1678)), (.int (.ofNat (nat_lit 268435456)) (nat_lit 1679)), (.int (.ofNat (nat_lit 4096)) (nat_lit 1680)), (.int (.ofNat (nat_lit 4096)) (nat_lit 1681)), (.int (.ofNat (nat_lit 268439552)) (nat_lit 1682)), (.int (.ofNat (nat_lit 268439552)) (nat_lit 1683)), (.int (.ofNat (nat_lit 1073741824)) (nat_lit 1684)), (.int (.ofNat (nat_lit 1073741824)) (nat_lit 1685)), (.int (.ofNat (nat_lit 1342177280)) (nat_lit 1686)), (.int (.ofNat (nat_lit 1342177280)) (nat_lit 1687)), (.int (.ofNat (nat_lit 1073745920)) (nat_lit 1688)), (.int (.ofNat (nat_lit 1073745920)) (nat_lit 1689)), (.int (.ofNat (nat_lit 1342181376)) (nat_lit 1690)), (.int (.ofNat (nat_lit 1342181376)) (nat_lit 1691))]) (nat_lit 0)) (Array.mk []))
noncomputable def r2_999 (P : Params) : Obj := (.mk (.type "tuple") .none (.seq (Array.mk [(.int (.ofNat (nat_lit 0)) (nat_lit 1692)), (.int (.ofNat (nat_lit 68719476736)) (nat_lit 1693)), (.int (.ofNat (nat_lit 8796093022208)) (nat_lit 1694)), (.int (.ofNat (nat_lit 8864812498944)) (nat_lit 1695)), (.int (.ofNat (nat_lit 1152921504606846976)) (nat_lit 1696)), (.int (.ofNat (nat_lit 1152921573326323712)) (nat_lit 1697)), (.int (.ofNat (nat_lit 1152930300699869184)) (nat_lit 1698)), (.int (.ofNat (nat_lit 1152930369419345920)) (nat_lit 1699)), (.int (.ofNat (nat_lit 1125899906842624)) (nat_lit 1700)), (.int (.ofNat (nat_lit 1125968626319360)) (nat_lit 1701)), (.int (.ofNat (nat_lit 1134695999864832)) (nat_lit 1702)), (.int (.ofNat (nat_lit 1134764719341568)) (nat_lit 1703)), (.int (.ofNat (nat_lit 1154047404513689600)) (nat_lit 1704)), (.int (.ofNat (nat_lit 1154047473233166336)) (nat_lit 1705)), (.int (.ofNat (nat_lit 1154056200606711808)) (nat_lit 1706)), (.int (.ofNat (nat_lit 1154056269326188544)) (nat_lit 1707))]) (nat_lit 0)) (Array.mk []))
noncomputable def r2_1000 (P : Params) : Obj := (.mk (.type "tuple") .none (.seq (Array.mk [(.int (.ofNat (nat_lit 0)) (nat_lit 1708)), (.int (.ofNat (nat_lit 0)) (nat_lit 1709)), (.int (.ofNat (nat_lit 128)) (nat_lit 1710)), (.int (.ofNat (nat_lit 128)) (nat_lit 1711)), (.int (.ofNat (nat_lit 524288)) (nat_lit 1712)), (.int (.ofNat (nat_lit 524288)) (nat_lit 1713)), (.int (.ofNat (nat_lit 524416)) (nat_lit 1714)), (.int (.ofNat (nat_lit 524416)) (nat_lit 1715)), (.int (.ofNat (nat_lit 8388608)) (nat_lit 1716)), (.int (.ofNat (nat_lit 8388608)) (nat_lit 1717)), (.int (.ofNat (nat_lit 8388736)) (nat_lit 1718)), (.int (.ofNat (nat_lit 8388736)) (nat_lit 1719)), (.int (.ofNat (nat_lit 8912896)) (nat_lit 1720)), (.int (.ofNat (nat_lit 8912896)) (nat_lit 1721)), (.int (.ofNat (nat_lit 8913024)) (nat_lit 1722)), (.int (.ofNat (nat_lit 8913024)) (nat_lit 1723))]) (nat_lit 0)) (Array.mk []))
noncomputable def r2_1001 (P : Params) : Obj := (.mk (.type "tuple") .none (.seq (Array.mk [(.int (.ofNat (nat_lit 0)) (nat_lit 1724)), (.int (.ofNat (nat_lit 134217728)) (nat_lit 1725)), (.int (.ofNat (nat_lit 137438953472)) (nat_lit 1726)), (.int (.ofNat (nat_lit 137573171200)) (nat_lit 1727)), (.int (.ofNat (nat_lit 17592186044416)) (nat_lit 1728)), (.int (.ofNat (nat_lit 17592320262144)) (nat_lit 1729)), (.int (.ofNat (nat_lit 17729624997888)) (nat_lit 1730)), (.int (.ofNat (nat_lit 17729759215616)) (nat_lit 1731)), (.int (.ofNat (nat_lit 35184372088832)) (nat_lit 1732)), (.int (.ofNat (nat_lit 35184506306560)) (nat_lit 1733)), (.int (.ofNat (nat_lit 35321811042304)) (nat_lit 1734)), (.int (.ofNat (nat_lit 35321945260032)) (nat_lit 1735)), (.int (.ofNat (nat_lit 52776558133248)) (nat_lit 1736)), (.int (.ofNat (nat_lit 52776692350976)) (nat_lit 1737)), (.int (.ofNat (nat_lit 52913997086720)) (nat_lit 1738)), (.int (.ofNat (nat_lit 52914131304448)) (nat_lit 1739))]) (nat_lit 0)) (Array.mk []))
noncomputable def r2_1002 (P : Params) : Obj := (.mk (.type "tuple") .none (.seq (Array.mk [(.int (.ofNat (nat_lit 0)) (nat_lit 1740)), (.int (.ofNat (nat_lit 0)) (nat_lit 1741)), (.int (.ofNat (nat_lit 4194304)) (nat_lit 1742)), (.int (.ofNat (nat_lit 4194304)) (nat_lit 1743)), (.int (.ofNat (nat_lit 67108864)) (nat_lit 1744)), (.int (.ofNat (nat_lit 67108864)) (nat_lit 1745)), (.int (.ofNat (nat_lit 71303168)) (nat_lit 1746)), (.int (.ofNat (nat_lit 71303168)) (nat_lit 1747)), (.int (.ofNat (nat_lit 2048)) (nat_lit 1748)), (.int (.ofNat (nat_lit 2048)) (nat_lit 1749)), (.int (.ofNat (nat_lit 4196352)) (nat_lit 1750)), (.int (.ofNat (nat_lit 4196352)) (nat_lit 1751)), (.int (.ofNat (nat_lit 67110912)) (nat_lit 1752)), (.int (.ofNat (nat_lit 67110912)) (nat_lit 1753)), (.int (.ofNat (nat_lit 71305216)) (nat_lit 1754)), (.int (.ofNat (nat_lit 71305216)) (nat_lit 1755))]) (nat_lit 0)) (Array.mk []))
noncomputable def r2_1003 (P : Params) : Obj := (.mk (.type "tuple") .none (.seq (Array.mk [(.int (.ofNat (nat_lit 0)) (nat_lit 1756)), (.int (.ofNat (nat_lit 32768)) (nat_lit 1757)), (.int (.ofNat (nat_lit 18014398509481984)) (nat_lit 1758)), (.int (.ofNat (nat_lit 18014398509514752)) (nat_lit 1759)), (.int (.ofNat (nat_lit 274877906944)) (nat_lit 1760)), (.int (.ofNat (nat_lit 274877939712)) (nat_lit 1761)), (.int (.ofNat (nat_lit 18014673387388928)) (nat_lit 1762)), (.int (.ofNat (nat_lit 18014673387421696)) (nat_lit 1763)), (.int (.ofNat (nat_lit 9223372036854775808)) (nat_lit 1764)), (.int (.ofNat (nat_lit 9223372036854808576)) (nat_lit 1765)), (.int (.ofNat (nat_lit 9241386435364257792)) (nat_lit 1766)), (.int (.ofNat (nat_lit 9241386435364290560)) (nat_lit 1767)), (.int (.ofNat (nat_lit 9223372311732682752)) (nat_lit 1768)), (.int (.ofNat (nat_lit 9223372311732715520)) (nat_lit 1769)), (.int (.ofNat (nat_lit 9241386710242164736)) (nat_lit 1770)), (.int (.ofNat (nat_lit 9241386710242197504)) (nat_lit 1771))]) (nat_lit 0)) (Array.mk []))
noncomputable def r2_1004 (P : Params) : Obj := (.mk (.type "tuple") .none (.seq (Array.mk [(.int (.ofNat (nat_lit 0)) (nat_lit 1772)), (.int (.ofNat (nat_lit 0)) (nat_lit 1773)), (.int (.ofNat (nat_lit 16384)) (nat_lit 1774)), (.int (.ofNat (nat_lit 16384)) (nat_lit 1775)), (.int (.ofNat (nat_lit 8)) (nat_lit 1776)), (.int (.ofNat (nat_lit 8)) (nat_lit 1777)), (.int (.ofNat (nat_lit 16392)) (nat_lit 1778)), (.int (.ofNat (nat_lit 16392)) (nat_lit 1779)), (.int (.ofNat (nat_lit 16)) (nat_lit 1780)), (.int (.ofNat (nat_lit 16)) (nat_lit 1781)), (.int (.ofNat (nat_lit 16400)) (nat_lit 1782)), (.int (.ofNat (nat_lit 16400)) (nat_lit 1783)), (.int (.ofNat (nat_lit 24)) (nat_lit 1784)), (.int (.ofNat (nat_lit 24)) (nat_lit 1785)), (.int (.ofNat (nat_lit 16408)) (nat_lit 1786)), (.int (.ofNat (nat_lit 16408)) (nat_lit 1787))]) (nat_lit 0)) (Array.mk []))
noncomputable def r2_1005 (P : Params) : Obj := (.mk (.type "tuple") .none (.seq (Array.mk [(.int (.ofNat (nat_lit 0)) (nat_lit 1788)), (.int (.ofNat (nat_lit 8589934592)) (nat_lit 1789)), (.int (.ofNat (nat_lit 281474976710656)) (nat_lit 1790)), (.int (.ofNat (nat_lit 281483566645248)) (nat_lit 1791)), (.int (.ofNat (nat_lit 288230376151711744)) (nat_lit 1792)), (.int (.ofNat (nat_lit 288230384741646336)) (nat_lit 1793)), (.int (.ofNat (nat_lit 288511851128422400)) (nat_lit 1794)), (.int (.ofNat (nat_lit 288511859718356992)) (nat_lit 1795)), (.int (.ofNat (nat_lit 9007199254740992)) (nat_lit 1796)), (.int (.ofNat (nat_lit 9007207844675584)) (nat_lit 1797)), (.int (.ofNat (nat_lit 9288674231451648)) (nat_lit 1798)), (.int (.ofNat (nat_lit 9288682821386240)) (nat_lit 1799)), (.int (.ofNat (nat_lit 297237575406452736)) (nat_lit 1800)), (.int (.ofNat (nat_lit 297237583996387328)) (nat_lit 1801)), (.int (.ofNat (nat_lit 297519050383163392)) (nat_lit 1802)), (.int (.ofNat (nat_lit 297519058973097984)) (nat_lit 1803))]) (nat_lit 0)) (Array.mk []))
noncomputable def r2_1006 (P : Params) : Obj := (.mk (.type "tuple") .none (.seq (Array.mk [(.int (.ofNat (nat_lit 0)) (nat_lit 1804)), (.int (.ofNat (nat_lit 0)) (nat_lit 1805)), (.int (.ofNat (nat_lit 1099511627776)) (nat_lit 1806)), (.int (.ofNat (nat_lit 1099511627776)) (nat_lit 1807)), (.int (.ofNat (nat_lit 4294967296)) (nat_lit 1808)), (.int (.ofNat (nat_lit 4294967296)) (nat_lit 1809)), (.int (.ofNat (nat_lit 1103806595072)) (nat_lit 1810)), (.int (.ofNat (nat_lit 1103806595072)) (nat_lit 1811)), (.int (.ofNat (nat_lit 1048576)) (nat_lit 1812)), (.int (.ofNat (nat_lit 1048576)) (nat_lit 1813)), (.int (.ofNat (nat_lit 1099512676352)) (nat_lit 1814)), (.int (.ofNat (nat_lit 1099512676352)) (nat_lit 1815)), (.int (.ofNat (nat_lit 4296015872)) (nat_lit 1816)), (.int (.ofNat (nat_lit 4296015872)) (nat_lit 1817)), (.int (.ofNat (nat_lit 1103807643648)) (nat_lit 1818)), (.int (.ofNat (nat_lit 1103807643648)) (nat_lit 1819))]) (nat_lit 0)) (Array.mk []))
noncomputable def r2_1007 (P : Params) : Obj := (.mk (.type "tuple") .none (.seq (Array.mk [(.int (.ofNat (nat_lit 0)) (nat_lit 1820)), (.int (.ofNat (nat_lit 2147483648)) (nat_lit 1821)), (.int (.ofNat (nat_lit 4398046511104)) (nat_lit 1822)), (.int (.ofNat (nat_lit 4400193994752)) (nat_lit 1823)), (.int (.ofNat (nat_lit 4503599627370496)) (nat_lit 1824)), (.int (.ofNat (nat_lit 4503601774854144)) (nat_lit 1825)), (.int (.ofNat (nat_lit 4507997673881600)) (nat_lit 1826)), (.int (.ofNat (nat_lit 4507999821365248)) (nat_lit 1827)), (.int (.ofNat (nat_lit 34359738368)) (nat_lit 1828)), (.int (.ofNat (nat_lit 36507222016)) (nat_lit 1829)), (.int (.ofNat (nat_lit 4432406249472)) (nat_lit 1830)), (.int (.ofNat (nat_lit 4434553733120)) (nat_lit 1831)), (.int (.ofNat (nat_lit 4503633987108864)) (nat_lit 1832)), (.int (.ofNat (nat_lit 4503636134592512)) (nat_lit 1833)), (.int (.ofNat (nat_lit 4508032033619968)) (nat_lit 1834)), (.int (.ofNat (nat_lit 4508034181103616)) (nat_lit 1835))]) (nat_lit 0)) (Array.mk []))
noncomputable def r2_1008 (P : Params) : Obj := (.mk (.type "tuple") .none (.seq (Array.mk [(.ref (nat_lit 992)), (.ref (nat_lit 993)), (.ref (nat_lit 994)), (.ref (nat_lit 995)), (.ref (nat_lit 996)), (.ref (nat_lit 997)), (.ref (nat_lit 998)), (.ref (nat_lit 999)), (.ref (nat_lit 1000)), (.ref (nat_lit 1001)), (.ref (nat_lit 1002)), (.ref (nat_lit 1003)), (.ref (nat_lit 1004)), (.ref (nat_lit 1005)), (.ref (nat_lit 1006)), (.ref (nat_lit 1007))]) (nat_lit 0)) (Array.mk []))
noncomputable def r2T (P : Params) : BT := (BT.ins (BT.ins (BT.ins (BT.ins (BT.ins (BT.ins (BT.ins (BT.ins (BT.ins (BT.ins (BT.ins (BT.ins (BT.ins (BT.ins (BT.ins (BT.ins (BT.ins (BT.ins (r1T P) (nat_lit 3) (r2_3 P)) (nat_lit 992) (r2_992 P)) (nat_lit 993) (r2_993 P)) (nat_lit 994) (r2_994 P)) (nat_lit 995) (r2_995 P)) (nat_lit 996) (r2_996 P)) (nat_lit 997) (r2_997 P)) (nat_lit 998) (r2_998 P)) (nat_lit 999) (r2_999 P)) (nat_lit 1000) (r2_1000 P)) (nat_lit 1001) (r2_1001 P)) (nat_lit 1002) (r2_1002 P)) (nat_lit 1003) (r2_1003 P)) (nat_lit 1004) (r2_1004 P)) (nat_lit 1005) (r2_1005 P)) (nat_lit 1006) (r2_1006 P)) (nat_lit 1007) (r2_1007 P)) (nat_lit 1008) (r2_1008 P))
noncomputable def r2S (w : World) (os : OsState) : SharedT := ⟨r2T w.params, nat_lit 1009, {}, Array.mk [.finished, .finished], {}, nat_lit 1837, os⟩
noncomputable def rE3 (P : Params) : Array DictEntry := (Array.push (rE2 P) (.mk (KH P n72) (.str n72 (nat_lit 2093)) (.ref (nat_lit 1025))))
noncomputable def r3_3 (P : Params) : Obj := ⟨(.type "dict"), .none, .dict (rE3 P) (nat_lit 35), (Array.mk [])⟩
noncomputable def r3_1009 (P : Params) : Obj := (.mk (.type "tuple") .none (.seq (Array.mk [(.int (.ofNat (nat_lit 0)) (nat_lit 1837)), (.int (.ofNat (nat_lit 0)) (nat_lit 1838)), (.int (.ofNat (nat_lit 0)) (nat_lit 1839)), (.int (.ofNat (nat_lit 0)) (nat_lit 1840)), (.int (.ofNat (nat_lit 2097152)) (nat_lit 1841)), (.int (.ofNat (nat_lit 2097152)) (nat_lit 1842)), (.int (.ofNat (nat_lit 2097152)) (nat_lit 1843)), (.int (.ofNat (nat_lit 2097152)) (nat_lit 1844)), (.int (.ofNat (nat_lit 67108864)) (nat_lit 1845)), (.int (.ofNat (nat_lit 67108864)) (nat_lit 1846)), (.int (.ofNat (nat_lit 67108864)) (nat_lit 1847)), (.int (.ofNat (nat_lit 67108864)) (nat_lit 1848)), (.int (.ofNat (nat_lit 69206016)) (nat_lit 1849)), (.int (.ofNat (nat_lit 69206016)) (nat_lit 1850)), (.int (.ofNat (nat_lit 69206016)) (nat_lit 1851)), (.int (.ofNat (nat_lit 69206016)) (nat_lit 1852))]) (nat_lit 0)) (Array.mk []))
noncomputable def r3_1010 (P : Params) : Obj := (.mk (.type "tuple") .none (.seq (Array.mk [(.int (.ofNat (nat_lit 0)) (nat_lit 1853)), (.int (.ofNat (nat_lit 2048)) (nat_lit 1854)), (.int (.ofNat (nat_lit 1099511627776)) (nat_lit 1855)), (.int (.ofNat (nat_lit 1099511629824)) (nat_lit 1856)), (.int (.ofNat (nat_lit 8192)) (nat_lit 1857)), (.int (.ofNat (nat_lit 10240)) (nat_lit 1858)), (.int (.ofNat (nat_lit 1099511635968)) (nat_lit 1859)), (.int (.ofNat (nat_lit 1099511638016)) (nat_lit 1860)), (.int (.ofNat (nat_lit 268435456)) (nat_lit 1861)), (.int (.ofNat (nat_lit 268437504)) (nat_lit 1862)), (.int (.ofNat (nat_lit 1099780063232)) (nat_lit 1863)), (.int (.ofNat (nat_lit 1099780065280)) (nat_lit 1864)), (.int (.ofNat (nat_lit 268443648)) (nat_lit 1865)), (.int (.ofNat (nat_lit 268445696)) (nat_lit 1866)), (.int (.ofNat (nat_lit 1099780071424)) (nat_lit 1867)), (.int (.ofNat (nat_lit 1099780073472)) (nat_lit 1868))]) (nat_lit 0)) (Array.mk []))
noncomputable def r3_1011 (P : Params) : Obj := (.mk (.type "tuple") .none (.seq (Array.mk [(.int (.ofNat (nat_lit 0)) (nat_lit 1869)), (.int (.ofNat (nat_lit 0)) (nat_lit 1870)), (.int (.ofNat (nat_lit 0)) (nat_lit 1871)), (.int (.ofNat (nat_lit 0)) (nat_lit 1872)), (.int (.ofNat (nat_lit 4294967296)) (nat_lit 1873)), (.int (.ofNat (nat_lit 4294967296)) (nat_lit 1874)), (.int (.ofNat (nat_lit 4294967296)) (nat_lit 1875)), (.int (.ofNat (nat_lit 4294967296)) (nat_lit 1876)), (.int (.ofNat (nat_lit 8388608)) (nat_lit 1877)), (.int (.ofNat (nat_lit 8388608)) (nat_lit 1878)), (.int (.ofNat (nat_lit 8388608)) (nat_lit 1879)), (.int (.ofNat (nat_lit 8388608)) (nat_lit 1880)), (.int (.ofNat (nat_lit 4303355904)) (nat_lit 1881)), (.int (.ofNat (nat_lit 4303355904)) (nat_lit 1882)), (.int (.ofNat (nat_lit 4303355904)) (nat_lit 1883)), (.int (.ofNat (nat_lit 4303355904)) (nat_lit 1884))]) (nat_lit 0)) (Array.mk []))
noncomputable def r3_1012 (P : Params) : Obj := (.mk (.type "tuple") .none (.seq (Array.mk [(.int (.ofNat (nat_lit 0)) (nat_lit 1885)), (.int (.ofNat (nat_lit 2199023255552)) (nat_lit 1886)), (.int (.ofNat (nat_lit 2147483648)) (nat_lit 1887)), (.int (.ofNat (nat_lit 2201170739200)) (nat_lit 1888)), (.int (.ofNat (nat_lit 4194304)) (nat_lit 1889)), (.int (.ofNat (nat_lit 2199027449856)) (nat_lit 1890)), (.int (.ofNat (nat_lit 2151677952)) (nat_lit 1891)), (.int (.ofNat (nat_lit 2201174933504)) (nat_lit 1892)), (.int (.ofNat (nat_lit 134217728)) (nat_lit 1893)), (.int (.ofNat (nat_lit 2199157473280)) (nat_lit 1894)), (.int (.ofNat (nat_lit 2281701376)) (nat_lit 1895)), (.int (.ofNat (nat_lit 2201304956928)) (nat_lit 1896)), (.int (.ofNat (nat_lit 138412032)) (nat_lit 1897)), (.int (.ofNat (nat_lit 2199161667584)) (nat_lit 1898)), (.int (.ofNat (nat_lit 2285895680)) (nat_lit 1899)), (.int (.ofNat (nat_lit 2201309151232)) (nat_lit 1900))]) (nat_lit 0)) (Array.mk []))
noncomputable def r3_1013 (P : Params) : Obj := (.mk (.type "tuple") .none (.seq (Array.mk [(.int (.ofNat (nat_lit 0)) (nat_lit 1901)), (.int (.ofNat (nat_lit 0)) (nat_lit 1902)), (.int (.ofNat (nat_lit 0)) (nat_lit 1903)), (.int (.ofNat (nat_lit 0)) (nat_lit 1904)), (.int (.ofNat (nat_lit 64)) (nat_lit 1905)), (.int (.ofNat (nat_lit 64)) (nat_lit 1906)), (.int (.ofNat (nat_lit 64)) (nat_lit 1907)), (.int (.ofNat (nat_lit 64)) (nat_lit 1908)), (.int (.ofNat (nat_lit 4096)) (nat_lit 1909)), (.int (.ofNat (nat_lit 4096)) (nat_lit 1910)), (.int (.ofNat (nat_lit 4096)) (nat_lit 1911)), (.int (.ofNat (nat_lit 4096)) (nat_lit 1912)), (.int (.ofNat (nat_lit 4160)) (nat_lit 1913)), (.int (.ofNat (nat_lit 4160)) (nat_lit 1914)), (.int (.ofNat (nat_lit 4160)) (nat_lit 1915)), (.int (.ofNat (nat_lit 4160)) (nat_lit 1916))]) (nat_lit 0)) (Array.mk []))
noncomputable def r3_1014 (P : Params) : Obj := (.mk (.type "tuple") .none (.seq (Array.mk [(.int (.ofNat (nat_lit 0)) (nat_lit 1917)), (.int (.ofNat (nat_lit 16)) (nat_lit 1918)), (.int (.ofNat (nat_lit 1024)) (nat_lit 1919)), (.int (.ofNat (nat_lit 1040)) (nat_lit 1920)), (.int (.ofNat (nat_lit 128)) (nat_lit 1921)), (.int (.ofNat (nat_lit 144)) (nat_lit 1922)), (.int (.ofNat (nat_lit 1152)) (nat_lit 1923)), (.int (.ofNat (nat_lit 1168)) (nat_lit 1924)), (.int (.ofNat (nat_lit 1073741824)) (nat_lit 1925)), (.int (.ofNat (nat_lit 1073741840)) (nat_lit 1926)), (.int (.ofNat (nat_lit 1073742848)) (nat_lit 1927)), (.int (.ofNat (nat_lit 1073742864)) (nat_lit 1928)), (.int (.ofNat (nat_lit 1073741952)) (nat_lit 1929)), (.int (.ofNat (nat_lit 1073741968)) (nat_lit 1930)), (.int (.ofNat (nat_lit 1073742976)) (nat_lit 1931)), (.int (.ofNat (nat_lit 1073742992)) (nat_lit 1932))]) (nat_lit 0)) (Array.mk []))
noncomputable def r3_1015 (P : Params) : Obj := (.mk (.type "tuple") .none (.seq (Array.mk [(.int (.ofNat (nat_lit 0)) (nat_lit 1933)), (.int (.ofNat (nat_lit 0)) (nat_lit 1934)), (.int (.ofNat (nat_lit 0)) (nat_lit 1935)), (.int (.ofNat (nat_lit 0)) (nat_lit 1936)), (.int (.ofNat (nat_lit 524288)) (nat_lit 1937)), (.int (.ofNat (nat_lit 524288)) (nat_lit 1938)), (.int (.ofNat (nat_lit 524288)) (nat_lit 1939)), (.int (.ofNat (nat_lit 524288)) (nat_lit 1940)), (.int (.ofNat (nat_lit 1048576)) (nat_lit 1941)), (.int (.ofNat (nat_lit 1048576)) (nat_lit 1942)), (.int (.ofNat (nat_lit 1048576)) (nat_lit 1943)), (.int (.ofNat (nat_lit 1048576)) (nat_lit 1944)), (.int (.ofNat (nat_lit 1572864)) (nat_lit 1945)), (.int (.ofNat (nat_lit 1572864)) (nat_lit 1946)), (.int (.ofNat (nat_lit 1572864)) (nat_lit 1947)), (.int (.ofNat (nat_lit 1572864)) (nat_lit 1948))]) (nat_lit 0)) (Array.mk []))
noncomputable def r3_1016 (P : Params) : Obj := (.mk (.type "tuple") .none (.seq (Array.mk [(.int (.ofNat (nat_lit 0)) (nat_lit 1949)), (.int (.ofNat (nat_lit 262144)) (nat_lit 1950)), (.int (.ofNat (nat_lit 32)) (nat_lit 1951)), (.int (.ofNat (nat_lit 262176)) (nat_lit 1952)), (.int (.ofNat (nat_lit 4)) (nat_lit 1953)), (.int (.ofNat (nat_lit 262148)) (nat_lit 1954)), (.int (.ofNat (nat_lit 36)) (nat_lit 1955)), (.int (.ofNat (nat_lit 262180)) (nat_lit 1956)), (.int (.ofNat (nat_lit 8589934592)) (nat_lit 1957)), (.int (.ofNat (nat_lit 8590196736)) (nat_lit 1958)), (.int (.ofNat (nat_lit 8589934624)) (nat_lit 1959)), (.int (.ofNat (nat_lit 8590196768)) (nat_lit 1960)), (.int (.ofNat (nat_lit 8589934596)) (nat_lit 1961)), (.int (.ofNat (nat_lit 8590196740)) (nat_lit 1962)), (.int (.ofNat (nat_lit 8589934628)) (nat_lit 1963)), (.int (.ofNat (nat_lit 8590196772)) (nat_lit 1964))]) (nat_lit 0)) (Array.mk []))
noncomputable def r3_1017 (P : Params) : Obj := (.mk (.type "tuple") .none (.seq (Array.mk [(.int (.ofNat (nat_lit 0)) (nat_lit 1965)), (.int (.ofNat (nat_lit 8)) (nat_lit 1966)), (.int (.ofNat (nat_lit 32768)) (nat_lit 1967)), (.int (.ofNat (nat_lit 32776)) (nat_lit 1968)), (.int (.ofNat (nat_lit 4503599627370496)) (nat_lit 1969)), (.int (.ofNat (nat_lit 4503599627370504)) (nat_lit 1970)), (.int (.ofNat (nat_lit 4503599627403264)) (nat_lit 1971)), (.int (.ofNat (nat_lit 4503599627403272)) (nat_lit 1972)), (.int (.ofNat (nat_lit 9007199254740992)) (nat_lit 1973)), (.int (.ofNat (nat_lit 9007199254741000)) (nat_lit 1974)), (.int (.ofNat (nat_lit 9007199254773760)) (nat_lit 1975)), (.int (.ofNat (nat_lit 9007199254773768)) (nat_lit 1976)), (.int (.ofNat (nat_lit 13510798882111488)) (nat_lit 1977)), (.int (.ofNat (nat_lit 13510798882111496)) (nat_lit 1978)), (.int (.ofNat (nat_lit 13510798882144256)) (nat_lit 1979)), (.int (.ofNat (nat_lit 13510798882144264)) (nat_lit 1980))]) (nat_lit 0)) (Array.mk []))
noncomputable def r3_1018 (P : Params) : Obj := (.mk (.type "tuple") .none (.seq (Array.mk [(.int (.ofNat (nat_lit 0)) (nat_lit 1981)), (.int (.ofNat (nat_lit 70368744177664)) (nat_lit 1982)), (.int (.ofNat (nat_lit 8796093022208)) (nat_lit 1983)), (.int (.ofNat (nat_lit 79164837199872)) (nat_lit 1984)), (.int (.ofNat (nat_lit 17592186044416)) (nat_lit 1985)), (.int (.ofNat (nat_lit 87960930222080)) (nat_lit 1986)), (.int (.ofNat (nat_lit 26388279066624)) (nat_lit 1987)), (.int (.ofNat (nat_lit 96757023244288)) (nat_lit 1988)), (.int (.ofNat (nat_lit 4611686018427387904)) (nat_lit 1989)), (.int (.ofNat (nat_lit 4611756387171565568)) (nat_lit 1990)), (.int (.ofNat (nat_lit 4611694814520410112)) (nat_lit 1991)), (.int (.ofNat (nat_lit 4611765183264587776)) (nat_lit 1992)), (.int (.ofNat (nat_lit 4611703610613432320)) (nat_lit 1993)), (.int (.ofNat (nat_lit 4611773979357609984)) (nat_lit 1994)), (.int (.ofNat (nat_lit 4611712406706454528)) (nat_lit 1995)), (.int (.ofNat (nat_lit 4611782775450632192)) (nat_lit 1996))]) (nat_lit 0)) (Array.mk []))
noncomputable def r3_1019 (P : Params) : Obj := (.mk (.type "tuple") .none (.seq (Array.mk [(.int (.ofNat (nat_lit 0)) (nat_lit 1997)), (.int (.ofNat (nat_lit 16384)) (nat_lit 1998)), (.int (.ofNat (nat_lit 536870912)) (nat_lit 1999)), (.int (.ofNat (nat_lit 536887296)) (nat_lit 2000)), (.int (.ofNat (nat_lit 281474976710656)) (nat_lit 2001)), (.int (.ofNat (nat_lit 281474976727040)) (nat_lit 2002)), (.int (.ofNat (nat_lit 281475513581568)) (nat_lit 2003)), (.int (.ofNat (nat_lit 281475513597952)) (nat_lit 2004)), (.int (.ofNat (nat_lit 144115188075855872)) (nat_lit 2005)), (.int (.ofNat (nat_lit 144115188075872256)) (nat_lit 2006)), (.int (.ofNat (nat_lit 144115188612726784)) (nat_lit 2007)), (.int (.ofNat (nat_lit 144115188612743168)) (nat_lit 2008)), (.int (.ofNat (nat_lit 144396663052566528)) (nat_lit 2009)), (.int (.ofNat (nat_lit 144396663052582912)) (nat_lit 2010)), (.int (.ofNat (nat_lit 144396663589437440)) (nat_lit 2011)), (.int (.ofNat (nat_lit 144396663589453824)) (nat_lit 2012))]) (nat_lit 0)) (Array.mk []))
noncomputable def r3_1020 (P : Params) : Obj := (.mk (.type "tuple") .none (.seq (Array.mk [(.int (.ofNat (nat_lit 0)) (nat_lit 2013)), (.int (.ofNat (nat_lit 1152921504606846976)) (nat_lit 2014)), (.int (.ofNat (nat_lit 1125899906842624)) (nat_lit 2015)), (.int (.ofNat (nat_lit 1154047404513689600)) (nat_lit 2016)), (.int (.ofNat (nat_lit 562949953421312)) (nat_lit 2017)), (.int (.ofNat (nat_lit 1153484454560268288)) (nat_lit 2018)), (.int (.ofNat (nat_lit 1688849860263936)) (nat_lit 2019)), (.int (.ofNat (nat_lit 1154610354467110912)) (nat_lit 2020)), (.int (.ofNat (nat_lit 34359738368)) (nat_lit 2021)), (.int (.ofNat (nat_lit 1152921538966585344)) (nat_lit 2022)), (.int (.ofNat (nat_lit 1125934266580992)) (nat_lit 2023)), (.int (.ofNat (nat_lit 1154047438873427968)) (nat_lit 2024)), (.int (.ofNat (nat_lit 562984313159680)) (nat_lit 2025)), (.int (.ofNat (nat_lit 1153484488920006656)) (nat_lit 2026)), (.int (.ofNat (nat_lit 1688884220002304)) (nat_lit 2027)), (.int (.ofNat (nat_lit 1154610388826849280)) (nat_lit 2028))]) (nat_lit 0)) (Array.mk []))
noncomputable def r3_1021 (P : Params) : Obj := (.mk (.type "tuple") .none (.seq (Array.mk [(.int (.ofNat (nat_lit 0)) (nat_lit 2029)), (.int (.ofNat (nat_lit 18014398509481984)) (nat_lit 2030)), (.int (.ofNat (nat_lit 2305843009213693952)) (nat_lit 2031)), (.int (.ofNat (nat_lit 2323857407723175936)) (nat_lit 2032)), (.int (.ofNat (nat_lit 549755813888)) (nat_lit 2033)), (.int (.ofNat (nat_lit 18014948265295872)) (nat_lit 2034)), (.int (.ofNat (nat_lit 2305843558969507840)) (nat_lit 2035)), (.int (.ofNat (nat_lit 2323857957478989824)) (nat_lit 2036)), (.int (.ofNat (nat_lit 68719476736)) (nat_lit 2037)), (.int (.ofNat (nat_lit 18014467228958720)) (nat_lit 2038)), (.int (.ofNat (nat_lit 2305843077933170688)) (nat_lit 2039)), (.int (.ofNat (nat_lit 2323857476442652672)) (nat_lit 2040)), (.int (.ofNat (nat_lit 618475290624)) (nat_lit 2041)), (.int (.ofNat (nat_lit 18015016984772608)) (nat_lit 2042)), (.int (.ofNat (nat_lit 2305843627688984576)) (nat_lit 2043)), (.int (.ofNat (nat_lit 2323858026198466560)) (nat_lit 2044))]) (nat_lit 0)) (Array.mk []))
noncomputable def r3_1022 (P : Params) : Obj := (.mk (.type "tuple") .none (.seq (Array.mk [(.int (.ofNat (nat_lit 0)) (nat_lit 2045)), (.int (.ofNat (nat_lit 288230376151711744)) (nat_lit 2046)), (.int (.ofNat (nat_lit 9223372036854775808)) (nat_lit 2047)), (.int (.ofNat (nat_lit 9511602413006487552)) (nat_lit 2048)), (.int (.ofNat (nat_lit 137438953472)) (nat_lit 2049)), (.int (.ofNat (nat_lit 288230513590665216)) (nat_lit 2050)), (.int (.ofNat (nat_lit 9223372174293729280)) (nat_lit 2051)), (.int (.ofNat (nat_lit 9511602550445441024)) (nat_lit 2052)), (.int (.ofNat (nat_lit 72057594037927936)) (nat_lit 2053)), (.int (.ofNat (nat_lit 360287970189639680)) (nat_lit 2054)), (.int (.ofNat (nat_lit 9295429630892703744)) (nat_lit 2055)), (.int (.ofNat (nat_lit 9583660007044415488)) (nat_lit 2056)), (.int (.ofNat (nat_lit 72057731476881408)) (nat_lit 2057)), (.int (.ofNat (nat_lit 360288107628593152)) (nat_lit 2058)), (.int (.ofNat (nat_lit 9295429768331657216)) (nat_lit 2059)), (.int (.ofNat (nat_lit 9583660144483368960)) (nat_lit 2060))]) (nat_lit 0)) (Array.mk []))
noncomputable def r3_1023 (P : Params) : Obj := (.mk (.type "tuple") .none (.seq (Array.mk [(.int (.ofNat (nat_lit 0)) (nat_lit 2061)), (.int (.ofNat (nat_lit 140737488355328)) (nat_lit 2062)), (.int (.ofNat (nat_lit 576460752303423488)) (nat_lit 2063)), (.int (.ofNat (nat_lit 576601489791778816)) (nat_lit 2064)), (.int (.ofNat (nat_lit 274877906944)) (nat_lit 2065)), (.int (.ofNat (nat_lit 141012366262272)) (nat_lit 2066)), (.int (.ofNat (nat_lit 576461027181330432)) (nat_lit 2067)), (.int (.ofNat (nat_lit 576601764669685760)) (nat_lit 2068)), (.int (.ofNat (nat_lit 17179869184)) (nat_lit 2069)), (.int (.ofNat (nat_lit 140754668224512)) (nat_lit 2070)), (.int (.ofNat (nat_lit 576460769483292672)) (nat_lit 2071)), (.int (.ofNat (nat_lit 576601506971648000)) (nat_lit 2072)), (.int (.ofNat (nat_lit 292057776128)) (nat_lit 2073)), (.int (.ofNat (nat_lit 141029546131456)) (nat_lit 2074)), (.int (.ofNat (nat_lit 576461044361199616)) (nat_lit 2075)), (.int (.ofNat (nat_lit 576601781849554944)) (nat_lit 2076))]) (nat_lit 0)) (Array.mk []))
noncomputable def r3_1024 (P : Params) : Obj := (.mk (.type "tuple") .none (.seq (Array.mk [(.int (.ofNat (nat_lit 0)) (nat_lit 2077)), (.int (.ofNat (nat_lit 36028797018963968)) (nat_lit 2078)), (.int (.ofNat (nat_lit 4398046511104)) (nat_lit 2079)), (.int (.ofNat (nat_lit 36033195065475072)) (nat_lit 2080)), (.int (.ofNat (nat_lit 2251799813685248)) (nat_lit 2081)), (.int (.ofNat (nat_lit 38280596832649216)) (nat_lit 2082)), (.int (.ofNat (nat_lit 2256197860196352)) (nat_lit 2083)), (.int (.ofNat (nat_lit 38284994879160320)) (nat_lit 2084)), (.int (.ofNat (nat_lit 35184372088832)) (nat_lit 2085)), (.int (.ofNat (nat_lit 36063981391052800)) (nat_lit 2086)), (.int (.ofNat (nat_lit 39582418599936)) (nat_lit 2087)), (.int (.ofNat (nat_lit 36068379437563904)) (nat_lit 2088)), (.int (.ofNat (nat_lit 2286984185774080)) (nat_lit 2089)), (.int (.ofNat (nat_lit 38315781204738048)) (nat_lit 2090)), (.int (.ofNat (nat_lit 2291382232285184)) (nat_lit 2091)), (.int (.ofNat (nat_lit 38320179251249152)) (nat_lit 2092))]) (nat_lit 0)) (Array.mk []))
noncomputable def r3_1025 (P : Params) : Obj := (.mk (.type "tuple") .none (.seq (Array.mk [(.ref (nat_lit 1009)), (.ref (nat_lit 1010)), (.ref (nat_lit 1011)), (.ref (nat_lit 1012)), (.ref (nat_lit 1013)), (.ref (nat_lit 1014)), (.ref (nat_lit 1015)), (.ref (nat_lit 1016)), (.ref (nat_lit 1017)), (.ref (nat_lit 1018)), (.ref (nat_lit 1019)), (.ref (nat_lit 1020)), (.ref (nat_lit 1021)), (.ref (nat_lit 1022)), (.ref (nat_lit 1023)), (.ref (nat_lit 1024))]) (nat_lit 0)) (Array.mk []))
noncomputable def r3T (P : Params) : BT := (BT.ins (BT.ins (BT.ins (BT.ins (BT.ins (BT.ins (BT.ins (BT.ins (BT.ins (BT.ins (BT.ins (BT.ins (BT.ins (BT.ins (BT.ins (BT.ins (BT.ins (BT.ins (r2T P) (nat_lit 3) (r3_3 P)) (nat_lit 1009) (r3_1009 P)) (nat_lit 1010) (r3_1010 P)) (nat_lit 1011) (r3_1011 P)) (nat_lit 1012) (r3_1012 P)) (nat_lit 1013) (r3_1013 P)) (nat_lit 1014) (r3_1014 P)) (nat_lit 1015) (r3_1015 P)) (nat_lit 1016) (r3_1016 P)) (nat_lit 1017) (r3_1017 P)) (nat_lit 1018) (r3_1018 P)) (nat_lit 1019) (r3_1019 P)) (nat_lit 1020) (r3_1020 P)) (nat_lit 1021) (r3_1021 P)) (nat_lit 1022) (r3_1022 P)) (nat_lit 1023) (r3_1023 P)) (nat_lit 1024) (r3_1024 P)) (nat_lit 1025) (r3_1025 P))
noncomputable def r3S (w : World) (os : OsState) : SharedT := ⟨r3T w.params, nat_lit 1026, {}, Array.mk [.finished, .finished], {}, nat_lit 2094, os⟩
noncomputable def rE4 (P : Params) : Array DictEntry := (Array.push (rE3 P) (.mk (KH P n73) (.str n73 (nat_lit 2350)) (.ref (nat_lit 1042))))
noncomputable def r4_3 (P : Params) : Obj := ⟨(.type "dict"), .none, .dict (rE4 P) (nat_lit 36), (Array.mk [])⟩
noncomputable def r4_1026 (P : Params) : Obj := (.mk (.type "tuple") .none (.seq (Array.mk [(.int (.ofNat (nat_lit 0)) (nat_lit 2094)), (.int (.ofNat (nat_lit 0)) (nat_lit 2095)), (.int (.ofNat (nat_lit 0)) (nat_lit 2096)), (.int (.ofNat (nat_lit 0)) (nat_lit 2097)), (.int (.ofNat (nat_lit 1024)) (nat_lit 2098)), (.int (.ofNat (nat_lit 1024)) (nat_lit 2099)), (.int (.ofNat (nat_lit 1024)) (nat_lit 2100)), (.int (.ofNat (nat_lit 1024)) (nat_lit 2101)), (.int (.ofNat (nat_lit 524288)) (nat_lit 2102)), (.int (.ofNat (nat_lit 524288)) (nat_lit 2103)), (.int (.ofNat (nat_lit 524288)) (nat_lit 2104)), (.int (.ofNat (nat_lit 524288)) (nat_lit 2105)), (.int (.ofNat (nat_lit 525312)) (nat_lit 2106)), (.int (.ofNat (nat_lit 525312)) (nat_lit 2107)), (.int (.ofNat (nat_lit 525312)) (nat_lit 2108)), (.int (.ofNat (nat_lit 525312)) (nat_lit 2109))]) (nat_lit 0)) (Array.mk []))
noncomputable def r4_1027 (P : Params) : Obj := (.mk (.type "tuple") .none (.seq (Array.mk [(.int (.ofNat (nat_lit 0)) (nat_lit 2110)), (.int (.ofNat (nat_lit 8388608)) (nat_lit 2111)), (.int (.ofNat (nat_lit 16384)) (nat_lit 2112)), (.int (.ofNat (nat_lit 8404992)) (nat_lit 2113)), (.int (.ofNat (nat_lit 2147483648)) (nat_lit 2114)), (.int (.ofNat (nat_lit 2155872256)) (nat_lit 2115)), (.int (.ofNat (nat_lit 2147500032)) (nat_lit 2116)), (.int (.ofNat (nat_lit 2155888640)) (nat_lit 2117)), (.int (.ofNat (nat_lit 262144)) (nat_lit 2118)), (.int (.ofNat (nat_lit 8650752)) (nat_lit 2119)), (.int (.ofNat (nat_lit 278528)) (nat_lit 2120)), (.int (.ofNat (nat_lit 8667136)) (nat_lit 2121)), (.int (.ofNat (nat_lit 2147745792)) (nat_lit 2122)), (.int (.ofNat (nat_lit 2156134400)) (nat_lit 2123)), (.int (.ofNat (nat_lit 2147762176)) (nat_lit 2124)), (.int (.ofNat (nat_lit 2156150784)) (nat_lit 2125))]) (nat_lit 0)) (Array.mk []))
noncomputable def r4_1028 (P : Params) : Obj := (.mk (.type "tuple") .none (.seq (Array.mk [(.int (.ofNat (nat_lit 0)) (nat_lit 2126)), (.int (.ofNat (nat_lit 0)) (nat_lit 2127)), (.int (.ofNat (nat_lit 0)) (nat_lit 2128)), (.int (.ofNat (nat_lit 0)) (nat_lit 2129)), (.int (.ofNat (nat_lit 8)) (nat_lit 2130)), (.int (.ofNat (nat_lit 8)) (nat_lit 2131)), (.int (.ofNat (nat_lit 8)) (nat_lit 2132)), (.int (.ofNat (nat_lit 8)) (nat_lit 2133)), (.int (.ofNat (nat_lit 1073741824)) (nat_lit 2134)), (.int (.ofNat (nat_lit 1073741824)) (nat_lit 2135)), (.int (.ofNat (nat_lit 1073741824)) (nat_lit 2136)), (.int (.ofNat (nat_lit 1073741824)) (nat_lit 2137)), (.int (.ofNat (nat_lit 1073741832)) (nat_lit 2138)), (.int (.ofNat (nat_lit 1073741832)) (nat_lit 2139)), (.int (.ofNat (nat_lit 1073741832)) (nat_lit 2140)), (.int (.ofNat (nat_lit 1073741832)) (nat_lit 2141))]) (nat_lit 0)) (Array.mk []))
noncomputable def r4_1029 (P : Params) : Obj := (.mk (.type "tuple") .none (.seq (Array.mk [(.int (.ofNat (nat_lit 0)) (nat_lit 2142)), (.int (.ofNat (nat_lit 536870912)) (nat_lit 2143)), (.int (.ofNat (nat_lit 8589934592)) (nat_lit 2144)), (.int (.ofNat (nat_lit 9126805504)) (nat_lit 2145)), (.int (.ofNat (nat_lit 128)) (nat_lit 2146)), (.int (.ofNat (nat_lit 536871040)) (nat_lit 2147)), (.int (.ofNat (nat_lit 8589934720)) (nat_lit 2148)), (.int (.ofNat (nat_lit 9126805632)) (nat_lit 2149)), (.int (.ofNat (nat_lit 1048576)) (nat_lit 2150)), (.int (.ofNat (nat_lit 537919488)) (nat_lit 2151)), (.int (.ofNat (nat_lit 8590983168)) (nat_lit 2152)), (.int (.ofNat (nat_lit 9127854080)) (nat_lit 2153)), (.int (.ofNat (nat_lit 1048704)) (nat_lit 2154)), (.int (.ofNat (nat_lit 537919616)) (nat_lit 2155)), (.int (.ofNat (nat_lit 8590983296)) (nat_lit 2156)), (.int (.ofNat (nat_lit 9127854208)) (nat_lit 2157))]) (nat_lit 0)) (Array.mk []))
noncomputable def r4_1030 (P : Params) : Obj := (.mk (.type "tuple") .none (.seq (Array.mk [(.int (.ofNat (nat_lit 0)) (nat_lit 2158)), (.int (.ofNat (nat_lit 0)) (nat_lit 2159)), (.int (.ofNat (nat_lit 0)) (nat_lit 2160)), (.int (.ofNat (nat_lit 0)) (nat_lit 2161)), (.int (.ofNat (nat_lit 8192)) (nat_lit 2162)), (.int (.ofNat (nat_lit 8192)) (nat_lit 2163)), (.int (.ofNat (nat_lit 8192)) (nat_lit 2164)), (.int (.ofNat (nat_lit 8192)) (nat_lit 2165)), (.int (.ofNat (nat_lit 2199023255552)) (nat_lit 2166)), (.int (.ofNat (nat_lit 2199023255552)) (nat_lit 2167)), (.int (.ofNat (nat_lit 2199023255552)) (nat_lit 2168)), (.int (.ofNat (nat_lit 2199023255552)) (nat_lit 2169)), (.int (.ofNat (nat_lit 2199023263744)) (nat_lit 2170)), (.int (.ofNat (nat_lit 2199023263744)) (nat_lit 2171)), (.int (.ofNat (nat_lit 2199023263744)) (nat_lit 2172)), (.int (.ofNat (nat_lit 2199023263744)) (nat_lit 2173))]) (nat_lit 0)) (Array.mk []))
noncomputable def r4_1031 (P : Params) : Obj := (.mk (.type "tuple") .none (.seq (Array.mk [(.int (.ofNat (nat_lit 0)) (nat_lit 2174)), (.int (.ofNat (nat_lit 2048)) (nat_lit 2175)), (.int (.ofNat (nat_lit 4294967296)) (nat_lit 2176)), (.int (.ofNat (nat_lit 4294969344)) (nat_lit 2177)), (.int (.ofNat (nat_lit 268435456)) (nat_lit 2178)), (.int (.ofNat (nat_lit 268437504)) (nat_lit 2179)), (.int (.ofNat (nat_lit 4563402752)) (nat_lit 2180)), (.int (.ofNat (nat_lit 4563404800)) (nat_lit 2181)), (.int (.ofNat (nat_lit 4)) (nat_lit 2182)), (.int (.ofNat (nat_lit 2052)) (nat_lit 2183)), (.int (.ofNat (nat_lit 4294967300)) (nat_lit 2184)), (.int (.ofNat (nat_lit 4294969348)) (nat_lit 2185)), (.int (.ofNat (nat_lit 268435460)) (nat_lit 2186)), (.int (.ofNat (nat_lit 268437508)) (nat_lit 2187)), (.int (.ofNat (nat_lit 4563402756)) (nat_lit 2188)), (.int (.ofNat (nat_lit 4563404804)) (nat_lit 2189))]) (nat_lit 0)) (Array.mk []))
noncomputable def r4_1032 (P : Params) : Obj := (.mk (.type "tuple") .none (.seq (Array.mk [(.int (.ofNat (nat_lit 0)) (nat_lit 2190)), (.int (.ofNat (nat_lit 0)) (nat_lit 2191)), (.int (.ofNat (nat_lit 0)) (nat_lit 2192)), (.int (.ofNat (nat_lit 0)) (nat_lit 2193)), (.int (.ofNat (nat_lit 4096)) (nat_lit 2194)), (.int (.ofNat (nat_lit 4096)) (nat_lit 2195)), (.int (.ofNat (nat_lit 4096)) (nat_lit 2196)), (.int (.ofNat (nat_lit 4096)) (nat_lit 2197)), (.int (.ofNat (nat_lit 16)) (nat_lit 2198)), (.int (.ofNat (nat_lit 16)) (nat_lit 2199)), (.int (.ofNat (nat_lit 16)) (nat_lit 2200)), (.int (.ofNat (nat_lit 16)) (nat_lit 2201)), (.int (.ofNat (nat_lit 4112)) (nat_lit 2202)), (.int (.ofNat (nat_lit 4112)) (nat_lit 2203)), (.int (.ofNat (nat_lit 4112)) (nat_lit 2204)), (.int (.ofNat (nat_lit 4112)) (nat_lit 2205))]) (nat_lit 0)) (Array.mk []))
noncomputable def r4_1033 (P : Params) : Obj := (.mk (.type "tuple") .none (.seq (Array.mk [(.int (.ofNat (nat_lit 0)) (nat_lit 2206)), (.int (.ofNat (nat_lit 64)) (nat_lit 2207)), (.int (.ofNat (nat_lit 1099511627776)) (nat_lit 2208)), (.int (.ofNat (nat_lit 1099511627840)) (nat_lit 2209)), (.int (.ofNat (nat_lit 2097152)) (nat_lit 2210)), (.int (.ofNat (nat_lit 2097216)) (nat_lit 2211)), (.int (.ofNat (nat_lit 1099513724928)) (nat_lit 2212)), (.int (.ofNat (nat_lit 1099513724992)) (nat_lit 2213)), (.int (.ofNat (nat_lit 32768)) (nat_lit 2214)), (.int (.ofNat (nat_lit 32832)) (nat_lit 2215)), (.int (.ofNat (nat_lit 1099511660544)) (nat_lit 2216)), (.int (.ofNat (nat_lit 1099511660608)) (nat_lit 2217)), (.int (.ofNat (nat_lit 2129920)) (nat_lit 2218)), (.int (.ofNat (nat_lit 2129984)) (nat_lit 2219)), (.int (.ofNat (nat_lit 1099513757696)) (nat_lit 2220)), (.int (.ofNat (nat_lit 1099513757760)) (nat_lit 2221))]) (nat_lit 0)) (Array.mk []))
noncomputable def r4_1034 (P : Params) : Obj := (.mk (.type "tuple") .none (.seq (Array.mk [(.int (.ofNat (nat_lit 0)) (nat_lit 2222)), (.int (.ofNat (nat_lit 67108864)) (nat_lit 2223)), (.int (.ofNat (nat_lit 134217728)) (nat_lit 2224)), (.int (.ofNat (nat_lit 201326592)) (nat_lit 2225)), (.int (.ofNat (nat_lit 288230376151711744)) (nat_lit 2226)), (.int (.ofNat (nat_lit 288230376218820608)) (nat_lit 2227)), (.int (.ofNat (nat_lit 288230376285929472)) (nat_lit 2228)), (.int (.ofNat (nat_lit 288230376353038336)) (nat_lit 2229)), (.int (.ofNat (nat_lit 9223372036854775808)) (nat_lit 2230)), (.int (.ofNat (nat_lit 9223372036921884672)) (nat_lit 2231)), (.int (.ofNat (nat_lit 9223372036988993536)) (nat_lit 2232)), (.int (.ofNat (nat_lit 9223372037056102400)) (nat_lit 2233)), (.int (.ofNat (nat_lit 9511602413006487552)) (nat_lit 2234)), (.int (.ofNat (nat_lit 9511602413073596416)) (nat_lit 2235)), (.int (.ofNat (nat_lit 9511602413140705280)) (nat_lit 2236)), (.int (.ofNat (nat_lit 9511602413207814144)) (nat_lit 2237))]) (nat_lit 0)) (Array.mk []))
noncomputable def r4_1035 (P : Params) : Obj := (.mk (.type "tuple") .none (.seq (Array.mk [(.int (.ofNat (nat_lit 0)) (nat_lit 2238)), (.int (.ofNat (nat_lit 562949953421312)) (nat_lit 2239)), (.int (.ofNat (nat_lit 144115188075855872)) (nat_lit 2240)), (.int (.ofNat (nat_lit 144678138029277184)) (nat_lit 2241)), (.int (.ofNat (nat_lit 1152921504606846976)) (nat_lit 2242)), (.int (.ofNat (nat_lit 1153484454560268288)) (nat_lit 2243)), (.int (.ofNat (nat_lit 1297036692682702848)) (nat_lit 2244)), (.int (.ofNat (nat_lit 1297599642636124160)) (nat_lit 2245)), (.int (.ofNat (nat_lit 2251799813685248)) (nat_lit 2246)), (.int (.ofNat (nat_lit 2814749767106560)) (nat_lit 2247)), (.int (.ofNat (nat_lit 146366987889541120)) (nat_lit 2248)), (.int (.ofNat (nat_lit 146929937842962432)) (nat_lit 2249)), (.int (.ofNat (nat_lit 1155173304420532224)) (nat_lit 2250)), (.int (.ofNat (nat_lit 1155736254373953536)) (nat_lit 2251)), (.int (.ofNat (nat_lit 1299288492496388096)) (nat_lit 2252)), (.int (.ofNat (nat_lit 1299851442449809408)) (nat_lit 2253))]) (nat_lit 0)) (Array.mk []))
noncomputable def r4_1036 (P : Params) : Obj := (.mk (.type "tuple") .none (.seq (Array.mk [(.int (.ofNat (nat_lit 0)) (nat_lit 2254)), (.int (.ofNat (nat_lit 4194304)) (nat_lit 2255)), (.int (.ofNat (nat_lit 32)) (nat_lit 2256)), (.int (.ofNat (nat_lit 4194336)) (nat_lit 2257)), (.int (.ofNat (nat_lit 18014398509481984)) (nat_lit 2258)), (.int (.ofNat (nat_lit 18014398513676288)) (nat_lit 2259)), (.int (.ofNat (nat_lit 18014398509482016)) (nat_lit 2260)), (.int (.ofNat (nat_lit 18014398513676320)) (nat_lit 2261)), (.int (.ofNat (nat_lit 576460752303423488)) (nat_lit 2262)), (.int (.ofNat (nat_lit 576460752307617792)) (nat_lit 2263)), (.int (.ofNat (nat_lit 576460752303423520)) (nat_lit 2264)), (.int (.ofNat (nat_lit 576460752307617824)) (nat_lit 2265)), (.int (.ofNat (nat_lit 594475150812905472)) (nat_lit 2266)), (.int (.ofNat (nat_lit 594475150817099776)) (nat_lit 2267)), (.int (.ofNat (nat_lit 594475150812905504)) (nat_lit 2268)), (.int (.ofNat (nat_lit 594475150817099808)) (nat_lit 2269))]) (nat_lit 0)) (Array.mk []))
noncomputable def r4_1037 (P : Params) : Obj := (.mk (.type "tuple") .none (.seq (Array.mk [(.int (.ofNat (nat_lit 0)) (nat_lit 2270)), (.int (.ofNat (nat_lit 36028797018963968)) (nat_lit 2271)), (.int (.ofNat (nat_lit 549755813888)) (nat_lit 2272)), (.int (.ofNat (nat_lit 36029346774777856)) (nat_lit 2273)), (.int (.ofNat (nat_lit 2305843009213693952)) (nat_lit 2274)), (.int (.ofNat (nat_lit 2341871806232657920)) (nat_lit 2275)), (.int (.ofNat (nat_lit 2305843558969507840)) (nat_lit 2276)), (.int (.ofNat (nat_lit 2341872355988471808)) (nat_lit 2277)), (.int (.ofNat (nat_lit 9007199254740992)) (nat_lit 2278)), (.int (.ofNat (nat_lit 45035996273704960)) (nat_lit 2279)), (.int (.ofNat (nat_lit 9007749010554880)) (nat_lit 2280)), (.int (.ofNat (nat_lit 45036546029518848)) (nat_lit 2281)), (.int (.ofNat (nat_lit 2314850208468434944)) (nat_lit 2282)), (.int (.ofNat (nat_lit 2350879005487398912)) (nat_lit 2283)), (.int (.ofNat (nat_lit 2314850758224248832)) (nat_lit 2284)), (.int (.ofNat (nat_lit 2350879555243212800)) (nat_lit 2285))]) (nat_lit 0)) (Array.mk []))
noncomputable def r4_1038 (P : Params) : Obj := (.mk (.type "tuple") .none (.seq (Array.mk [(.int (.ofNat (nat_lit 0)) (nat_lit 2286)), (.int (.ofNat (nat_lit 137438953472)) (nat_lit 2287)), (.int (.ofNat (nat_lit 4398046511104)) (nat_lit 2288)), (.int (.ofNat (nat_lit 4535485464576)) (nat_lit 2289)), (.int (.ofNat (nat_lit 4611686018427387904)) (nat_lit 2290)), (.int (.ofNat (nat_lit 4611686155866341376)) (nat_lit 2291)), (.int (.ofNat (nat_lit 4611690416473899008)) (nat_lit 2292)), (.int (.ofNat (nat_lit 4611690553912852480)) (nat_lit 2293)), (.int (.ofNat (nat_lit 70368744177664)) (nat_lit 2294)), (.int (.ofNat (nat_lit 70506183131136)) (nat_lit 2295)), (.int (.ofNat (nat_lit 74766790688768)) (nat_lit 2296)), (.int (.ofNat (nat_lit 74904229642240)) (nat_lit 2297)), (.int (.ofNat (nat_lit 4611756387171565568)) (nat_lit 2298)), (.int (.ofNat (nat_lit 4611756524610519040)) (nat_lit 2299)), (.int (.ofNat (nat_lit 4611760785218076672)) (nat_lit 2300)), (.int (.ofNat (nat_lit 4611760922657030144)) (nat_lit 2301))]) (nat_lit 0)) (Array.mk []))
noncomputable def r4_1039 (P : Params) : Obj := (.mk (.type "tuple") .none (.seq (Array.mk [(.int (.ofNat (nat_lit 0)) (nat_lit 2302)), (.int (.ofNat (nat_lit 274877906944)) (nat_lit 2303)), (.int (.ofNat (nat_lit 35184372088832)) (nat_lit 2304)), (.int (.ofNat (nat_lit 35459249995776)) (nat_lit 2305)), (.int (.ofNat (nat_lit 8796093022208)) (nat_lit 2306)), (.int (.ofNat (nat_lit 9070970929152)) (nat_lit 2307)), (.int (.ofNat (nat_lit 43980465111040)) (nat_lit 2308)), (.int (.ofNat (nat_lit 44255343017984)) (nat_lit 2309)), (.int (.ofNat (nat_lit 140737488355328)) (nat_lit 2310)), (.int (.ofNat (nat_lit 141012366262272)) (nat_lit 2311)), (.int (.ofNat (nat_lit 175921860444160)) (nat_lit 2312)), (.int (.ofNat (nat_lit 176196738351104)) (nat_lit 2313)), (.int (.ofNat (nat_lit 149533581377536)) (nat_lit 2314)), (.int (.ofNat (nat_lit 149808459284480)) (nat_lit 2315)), (.int (.ofNat (nat_lit 184717953466368)) (nat_lit 2316)), (.int (.ofNat (nat_lit 184992831373312)) (nat_lit 2317))]) (nat_lit 0)) (Array.mk []))
noncomputable def r4_1040 (P : Params) : Obj := (.mk (.type "tuple") .none (.seq (Array.mk [(.int (.ofNat (nat_lit 0)) (nat_lit 2318)), (.int (.ofNat (nat_lit 34359738368)) (nat_lit 2319)), (.int (.ofNat (nat_lit 17179869184)) (nat_lit 2320)), (.int (.ofNat (nat_lit 51539607552)) (nat_lit 2321)), (.int (.ofNat (nat_lit 17592186044416)) (nat_lit 2322)), (.int (.ofNat (nat_lit 17626545782784)) (nat_lit 2323)), (.int (.ofNat (nat_lit 17609365913600)) (nat_lit 2324)), (.int (.ofNat (nat_lit 17643725651968)) (nat_lit 2325)), (.int (.ofNat (nat_lit 4503599627370496)) (nat_lit 2326)), (.int (.ofNat (nat_lit 4503633987108864)) (nat_lit 2327)), (.int (.ofNat (nat_lit 4503616807239680)) (nat_lit 2328)), (.int (.ofNat (nat_lit 4503651166978048)) (nat_lit 2329)), (.int (.ofNat (nat_lit 4521191813414912)) (nat_lit 2330)), (.int (.ofNat (nat_lit 4521226173153280)) (nat_lit 2331)), (.int (.ofNat (nat_lit 4521208993284096)) (nat_lit 2332)), (.int (.ofNat (nat_lit 4521243353022464)) (nat_lit 2333))]) (nat_lit 0)) (Array.mk []))
noncomputable def r4_1041 (P : Params) : Obj := (.mk (.type "tuple") .none (.seq (Array.mk [(.int (.ofNat (nat_lit 0)) (nat_lit 2334)), (.int (.ofNat (nat_lit 72057594037927936)) (nat_lit 2335)), (.int (.ofNat (nat_lit 281474976710656)) (nat_lit 2336)), (.int (.ofNat (nat_lit 72339069014638592)) (nat_lit 2337)), (.int (.ofNat (nat_lit 68719476736)) (nat_lit 2338)), (.int (.ofNat (nat_lit 72057662757404672)) (nat_lit 2339)), (.int (.ofNat (nat_lit 281543696187392)) (nat_lit 2340)), (.int (.ofNat (nat_lit 72339137734115328)) (nat_lit 2341)), (.int (.ofNat (nat_lit 1125899906842624)) (nat_lit 2342)), (.int (.ofNat (nat_lit 73183493944770560)) (nat_lit 2343)), (.int (.ofNat (nat_lit 1407374883553280)) (nat_lit 2344)), (.int (.ofNat (nat_lit 73464968921481216)) (nat_lit 2345)), (.int (.ofNat (nat_lit 1125968626319360)) (nat_lit 2346)), (.int (.ofNat (nat_lit 73183562664247296)) (nat_lit 2347)), (.int (.ofNat (nat_lit 1407443603030016)) (nat_lit 2348)), (.int (.ofNat (nat_lit 73465037640957952)) (nat_lit 2349))]) (nat_lit 0)) (Array.mk []))
noncomputable def r4_1042 (P : Params) : Obj := (.mk (.type "tuple") .none (.seq (Array.mk [(.ref (nat_lit 1026)), (.ref (nat_lit 1027)), (.ref (nat_lit 1028)), (.ref (nat_lit 1029)), (.ref (nat_lit 1030)), (.ref (nat_lit 1031)), (.ref (nat_lit 1032)), (.ref (nat_lit 1033)), (.ref (nat_lit 1034)), (.ref (nat_lit 1035)), (.ref (nat_lit 1036)), (.ref (nat_lit 1037)), (.ref (nat_lit 1038)), (.ref (nat_lit 1039)), (.ref (nat_lit 1040)), (.ref (nat_lit 1041))]) (nat_lit 0)) (Array.mk []))
noncomputable def r4T (P : Params) : BT := (BT.ins (BT.ins (BT.ins (BT.ins (BT.ins (BT.ins (BT.ins (BT.ins (BT.ins (BT.ins (BT.ins (BT.ins (BT.ins (BT.ins (BT.ins (BT.ins (BT.ins (BT.ins (r3T P) (nat_lit 3) (r4_3 P)) (nat_lit 1026) (r4_1026 P)) (nat_lit 1027) (r4_1027 P)) (nat_lit 1028) (r4_1028 P)) (nat_lit 1029) (r4_1029 P)) (nat_lit 1030) (r4_1030 P)) (nat_lit 1031) (r4_1031 P)) (nat_lit 1032) (r4_1032 P)) (nat_lit 1033) (r4_1033 P)) (nat_lit 1034) (r4_1034 P)) (nat_lit 1035) (r4_1035 P)) (nat_lit 1036) (r4_1036 P)) (nat_lit 1037) (r4_1037 P)) (nat_lit 1038) (r4_1038 P)) (nat_lit 1039) (r4_1039 P)) (nat_lit 1040) (r4_1040 P)) (nat_lit 1041) (r4_1041 P)) (nat_lit 1042) (r4_1042 P))
noncomputable def r4S (w : World) (os : OsState) : SharedT := ⟨r4T w.params, nat_lit 1043, {}, Array.mk [.finished, .finished], {}, nat_lit 2351, os⟩
noncomputable def rE5 (P : Params) : Array DictEntry := (Array.push (Array.push (rE4 P) (.mk (KH P n74) (.str n74 (nat_lit 2351)) (.ref (nat_lit 1051)))) (.mk (KH P n75) (.str n75 (nat_lit 2480)) (.ref (nat_lit 1060))))
noncomputable def r5_3 (P : Params) : Obj := ⟨(.type "dict"), .none, .dict (rE5 P) (nat_lit 38), (Array.mk [])⟩
noncomputable def r5_1043 (P : Params) : Obj := (.mk (.type "tuple") .none (.seq (Array.mk [(.ref (nat_lit 1008)), (.ref (nat_lit 1025))]) (nat_lit 0)) (Array.mk []))
noncomputable def r5_1044 (P : Params) : Obj := (.mk (.type "tuple") .none (.seq (Array.mk [(.ref (nat_lit 1042)), (.ref (nat_lit 1042))]) (nat_lit 0)) (Array.mk []))
noncomputable def r5_1045 (P : Params) : Obj := (.mk (.type "tuple") .none (.seq (Array.mk [(.ref (nat_lit 1042)), (.ref (nat_lit 1042))]) (nat_lit 0)) (Array.mk []))
noncomputable def r5_1046 (P : Params) : Obj := (.mk (.type "tuple") .none (.seq (Array.mk [(.ref (nat_lit 1042)), (.ref (nat_lit 1042))]) (nat_lit 0)) (Array.mk []))
noncomputable def r5_1047 (P : Params) : Obj := (.mk (.type "tuple") .none (.seq (Array.mk [(.ref (nat_lit 1025)), (.ref (nat_lit 1042))]) (nat_lit 0)) (Array.mk []))
noncomputable def r5_1048 (P : Params) : Obj := (.mk (.type "tuple") .none (.seq (Array.mk [(.ref (nat_lit 1042)), (.ref (nat_lit 1042))]) (nat_lit 0)) (Array.mk []))
noncomputable def r5_1049 (P : Params) : Obj := (.mk (.type "tuple") .none (.seq (Array.mk [(.ref (nat_lit 1042)), (.ref (nat_lit 1042))]) (nat_lit 0)) (Array.mk []))
noncomputable def r5_1050 (P : Params) : Obj := (.mk (.type "tuple") .none (.seq (Array.mk [(.ref (nat_lit 1042)), (.ref (nat_lit 1025))]) (nat_lit 0)) (Array.mk []))
noncomputable def r5_1051 (P : Params) : Obj := (.mk (.type "tuple") .none (.seq (Array.mk [(.ref (nat_lit 1043)), (.ref (nat_lit 1044)), (.ref (nat_lit 1045)), (.ref (nat_lit 1046)), (.ref (nat_lit 1047)), (.ref (nat_lit 1048)), (.ref (nat_lit 1049)), (.ref (nat_lit 1050))]) (nat_lit 0)) (Array.mk []))
noncomputable def r5_1052 (P : Params) : Obj := (.mk (.type "tuple") .none (.seq (Array.mk [(.int (.ofNat (nat_lit 0)) (nat_lit 2352)), (.int (.ofNat (nat_lit 8390656)) (nat_lit 2353)), (.int (.ofNat (nat_lit 32776)) (nat_lit 2354)), (.int (.ofNat (nat_lit 8423432)) (nat_lit 2355)), (.int (.ofNat (nat_lit 549890031616)) (nat_lit 2356)), (.int (.ofNat (nat_lit 549898422272)) (nat_lit 2357)), (.int (.ofNat (nat_lit 549890064392)) (nat_lit 2358)), (.int (.ofNat (nat_lit 549898455048)) (nat_lit 2359)), (.int (.ofNat (nat_lit 2148007936)) (nat_lit 2360)), (.int (.ofNat (nat_lit 2156398592)) (nat_lit 2361)), (.int (.ofNat (nat_lit 2148040712)) (nat_lit 2362)), (.int (.ofNat (nat_lit 2156431368)) (nat_lit 2363)), (.int (.ofNat (nat_lit 552038039552)) (nat_lit 2364)), (.int (.ofNat (nat_lit 552046430208)) (nat_lit 2365)), (.int (.ofNat (nat_lit 552038072328)) (nat_lit 2366)), (.int (.ofNat (nat_lit 552046462984)) (nat_lit 2367))]) (nat_lit 0)) (Array.mk []))
noncomputable def r5_1053 (P : Params) : Obj := (.mk (.type "tuple") .none (.seq (Array.mk [(.int (.ofNat (nat_lit 0)) (nat_lit 2368)), (.int (.ofNat (nat_lit 36037593111986176)) (nat_lit 2369)), (.int (.ofNat (nat_lit 140771848093696)) (nat_lit 2370)), (.int (.ofNat (nat_lit 36178364960079872)) (nat_lit 2371)), (.int (.ofNat (nat_lit 576460752303423616)) (nat_lit 2372)), (.int (.ofNat (nat_lit 612498345415409792)) (nat_lit 2373)), (.int (.ofNat (nat_lit 576601524151517312)) (nat_lit 2374)), (.int (.ofNat (nat_lit 612639117263503488)) (nat_lit 2375)), (.int (.ofNat (nat_lit 9225623836668461056)) (nat_lit 2376)), (.int (.ofNat (nat_lit 9261661429780447232)) (nat_lit 2377)), (.int (.ofNat (nat_lit 9225764608516554752)) (nat_lit 2378)), (.int (.ofNat (nat_lit 9261802201628540928)) (nat_lit 2379)), (.int (.ofNat (nat_lit 9802084588971884672)) (nat_lit 2380)), (.int (.ofNat (nat_lit 9838122182083870848)) (nat_lit 2381)), (.int (.ofNat (nat_lit 9802225360819978368)) (nat_lit 2382)), (.int (.ofNat (nat_lit 9838262953931964544)) (nat_lit 2383))]) (nat_lit 0)) (Array.mk []))
noncomputable def r5_1054 (P : Params) : Obj := (.mk (.type "tuple") .none (.seq (Array.mk [(.int (.ofNat (nat_lit 0)) (nat_lit 2384)), (.int (.ofNat (nat_lit 4096)) (nat_lit 2385)), (.int (.ofNat (nat_lit 16)) (nat_lit 2386)), (.int (.ofNat (nat_lit 4112)) (nat_lit 2387)), (.int (.ofNat (nat_lit 268435456)) (nat_lit 2388)), (.int (.ofNat (nat_lit 268439552)) (nat_lit 2389)), (.int (.ofNat (nat_lit 268435472)) (nat_lit 2390)), (.int (.ofNat (nat_lit 268439568)) (nat_lit 2391)), (.int (.ofNat (nat_lit 1048576)) (nat_lit 2392)), (.int (.ofNat (nat_lit 1052672)) (nat_lit 2393)), (.int (.ofNat (nat_lit 1048592)) (nat_lit 2394)), (.int (.ofNat (nat_lit 1052688)) (nat_lit 2395)), (.int (.ofNat (nat_lit 269484032)) (nat_lit 2396)), (.int (.ofNat (nat_lit 269488128)) (nat_lit 2397)), (.int (.ofNat (nat_lit 269484048)) (nat_lit 2398)), (.int (.ofNat (nat_lit 269488144)) (nat_lit 2399))]) (nat_lit 0)) (Array.mk []))
noncomputable def r5_1055 (P : Params) : Obj := (.mk (.type "tuple") .none (.seq (Array.mk [(.int (.ofNat (nat_lit 0)) (nat_lit 2400)), (.int (.ofNat (nat_lit 17592186044416)) (nat_lit 2401)), (.int (.ofNat (nat_lit 68719476736)) (nat_lit 2402)), (.int (.ofNat (nat_lit 17660905521152)) (nat_lit 2403)), (.int (.ofNat (nat_lit 1152921504606846976)) (nat_lit 2404)), (.int (.ofNat (nat_lit 1152939096792891392)) (nat_lit 2405)), (.int (.ofNat (nat_lit 1152921573326323712)) (nat_lit 2406)), (.int (.ofNat (nat_lit 1152939165512368128)) (nat_lit 2407)), (.int (.ofNat (nat_lit 4503599627370496)) (nat_lit 2408)), (.int (.ofNat (nat_lit 4521191813414912)) (nat_lit 2409)), (.int (.ofNat (nat_lit 4503668346847232)) (nat_lit 2410)), (.int (.ofNat (nat_lit 4521260532891648)) (nat_lit 2411)), (.int (.ofNat (nat_lit 1157425104234217472)) (nat_lit 2412)), (.int (.ofNat (nat_lit 1157442696420261888)) (nat_lit 2413)), (.int (.ofNat (nat_lit 1157425172953694208)) (nat_lit 2414)), (.int (.ofNat (nat_lit 1157442765139738624)) (nat_lit 2415))]) (nat_lit 0)) (Array.mk []))
noncomputable def r5_1056 (P : Params) : Obj := (.mk (.type "tuple") .none (.seq (Array.mk [(.int (.ofNat (nat_lit 0)) (nat_lit 2416)), (.int (.ofNat (nat_lit 8192)) (nat_lit 2417)), (.int (.ofNat (nat_lit 32)) (nat_lit 2418)), (.int (.ofNat (nat_lit 8224)) (nat_lit 2419)), (.int (.ofNat (nat_lit 536870912)) (nat_lit 2420)), (.int (.ofNat (nat_lit 536879104)) (nat_lit 2421)), (.int (.ofNat (nat_lit 536870944)) (nat_lit 2422)), (.int (.ofNat (nat_lit 536879136)) (nat_lit 2423)), (.int (.ofNat (nat_lit 2097152)) (nat_lit 2424)), (.int (.ofNat (nat_lit 2105344)) (nat_lit 2425)), (.int (.ofNat (nat_lit 2097184)) (nat_lit 2426)), (.int (.ofNat (nat_lit 2105376)) (nat_lit 2427)), (.int (.ofNat (nat_lit 538968064)) (nat_lit 2428)), (.int (.ofNat (nat_lit 538976256)) (nat_lit 2429)), (.int (.ofNat (nat_lit 538968096)) (nat_lit 2430)), (.int (.ofNat (nat_lit 538976288)) (nat_lit 2431))]) (nat_lit 0)) (Array.mk []))
noncomputable def r5_1057 (P : Params) : Obj := (.mk (.type "tuple") .none (.seq (Array.mk [(.int (.ofNat (nat_lit 0)) (nat_lit 2432)), (.int (.ofNat (nat_lit 35184372088832)) (nat_lit 2433)), (.int (.ofNat (nat_lit 137438953472)) (nat_lit 2434)), (.int (.ofNat (nat_lit 35321811042304)) (nat_lit 2435)), (.int (.ofNat (nat_lit 2305843009213693952)) (nat_lit 2436)), (.int (.ofNat (nat_lit 2305878193585782784)) (nat_lit 2437)), (.int (.ofNat (nat_lit 2305843146652647424)) (nat_lit 2438)), (.int (.ofNat (nat_lit 2305878331024736256)) (nat_lit 2439)), (.int (.ofNat (nat_lit 9007199254740992)) (nat_lit 2440)), (.int (.ofNat (nat_lit 9042383626829824)) (nat_lit 2441)), (.int (.ofNat (nat_lit 9007336693694464)) (nat_lit 2442)), (.int (.ofNat (nat_lit 9042521065783296)) (nat_lit 2443)), (.int (.ofNat (nat_lit 2314850208468434944)) (nat_lit 2444)), (.int (.ofNat (nat_lit 2314885392840523776)) (nat_lit 2445)), (.int (.ofNat (nat_lit 2314850345907388416)) (nat_lit 2446)), (.int (.ofNat (nat_lit 2314885530279477248)) (nat_lit 2447))]) (nat_lit 0)) (Array.mk []))
noncomputable def r5_1058 (P : Params) : Obj := (.mk (.type "tuple") .none (.seq (Array.mk [(.int (.ofNat (nat_lit 0)) (nat_lit 2448)), (.int (.ofNat (nat_lit 16388)) (nat_lit 2449)), (.int (.ofNat (nat_lit 288230376151711808)) (nat_lit 2450)), (.int (.ofNat (nat_lit 288230376151728196)) (nat_lit 2451)), (.int (.ofNat (nat_lit 1074003968)) (nat_lit 2452)), (.int (.ofNat (nat_lit 1074020356)) (nat_lit 2453)), (.int (.ofNat (nat_lit 288230377225715776)) (nat_lit 2454)), (.int (.ofNat (nat_lit 288230377225732164)) (nat_lit 2455)), (.int (.ofNat (nat_lit 4195328)) (nat_lit 2456)), (.int (.ofNat (nat_lit 4211716)) (nat_lit 2457)), (.int (.ofNat (nat_lit 288230376155907136)) (nat_lit 2458)), (.int (.ofNat (nat_lit 288230376155923524)) (nat_lit 2459)), (.int (.ofNat (nat_lit 1078199296)) (nat_lit 2460)), (.int (.ofNat (nat_lit 1078215684)) (nat_lit 2461)), (.int (.ofNat (nat_lit 288230377229911104)) (nat_lit 2462)), (.int (.ofNat (nat_lit 288230377229927492)) (nat_lit 2463))]) (nat_lit 0)) (Array.mk []))
noncomputable def r5_1059 (P : Params) : Obj := (.mk (.type "tuple") .none (.seq (Array.mk [(.int (.ofNat (nat_lit 0)) (nat_lit 2464)), (.int (.ofNat (nat_lit 70385924046848)) (nat_lit 2465)), (.int (.ofNat (nat_lit 274945015808)) (nat_lit 2466)), (.int (.ofNat (nat_lit 70660869062656)) (nat_lit 2467)), (.int (.ofNat (nat_lit 4612811918334230528)) (nat_lit 2468)), (.int (.ofNat (nat_lit 4612882304258277376)) (nat_lit 2469)), (.int (.ofNat (nat_lit 4612812193279246336)) (nat_lit 2470)), (.int (.ofNat (nat_lit 4612882579203293184)) (nat_lit 2471)), (.int (.ofNat (nat_lit 18018796555993088)) (nat_lit 2472)), (.int (.ofNat (nat_lit 18089182480039936)) (nat_lit 2473)), (.int (.ofNat (nat_lit 18019071501008896)) (nat_lit 2474)), (.int (.ofNat (nat_lit 18089457425055744)) (nat_lit 2475)), (.int (.ofNat (nat_lit 4630830714890223616)) (nat_lit 2476)), (.int (.ofNat (nat_lit 4630901100814270464)) (nat_lit 2477)), (.int (.ofNat (nat_lit 4630830989835239424)) (nat_lit 2478)), (.int (.ofNat (nat_lit 4630901375759286272)) (nat_lit 2479))]) (nat_lit 0)) (Array.mk []))
noncomputable def r5_1060 (P : Params) : Obj := (.mk (.type "tuple") .none (.seq (Array.mk [(.ref (nat_lit 1052)), (.ref (nat_lit 1053)), (.ref (nat_lit 1054)), (.ref (nat_lit 1055)), (.ref (nat_lit 1056)), (.ref (nat_lit 1057)), (.ref (nat_lit 1058)), (.ref (nat_lit 1059))]) (nat_lit 0)) (Array.mk []))
noncomputable def r5T (P : Params) : BT := (BT.ins (BT.ins (BT.ins (BT.ins (BT.ins (BT.ins (BT.ins (BT.ins (BT.ins (BT.ins (BT.ins (BT.ins (BT.ins (BT.ins (BT.ins (BT.ins (BT.ins (BT.ins (BT.ins (r4T P) (nat_lit 3) (r5_3 P)) (nat_lit 1043) (r5_1043 P)) (nat_lit 1044) (r5_1044 P)) (nat_lit 1045) (r5_1045 P)) (nat_lit 1046) (r5_1046 P)) (nat_lit 1047) (r5_1047 P)) (nat_lit 1048) (r5_1048 P)) (nat_lit 1049) (r5_1049 P)) (nat_lit 1050) (r5_1050 P)) (nat_lit 1051) (r5_1051 P)) (nat_lit 1052) (r5_1052 P)) (nat_lit 1053) (r5_1053 P)) (nat_lit 1054) (r5_1054 P)) (nat_lit 1055) (r5_1055 P)) (nat_lit 1056) (r5_1056 P)) (nat_lit 1057) (r5_1057 P)) (nat_lit 1058) (r5_1058 P)) (nat_lit 1059) (r5_1059 P)) (nat_lit 1060) (r5_1060 P))
noncomputable def r5S (w : World) (os : OsState) : SharedT := ⟨r5T w.params, nat_lit 1061, {}, Array.mk [.finished, .finished], {}, nat_lit 2481, os⟩
noncomputable def rE6 (P : Params) : Array DictEntry := (Array.push (rE5 P) (.mk (KH P n76) (.str n76 (nat_lit 2993)) (.ref (nat_lit 1069))))
noncomputable def r6_3 (P : Params) : Obj := ⟨(.type "dict"), .none, .dict (rE6 P) (nat_lit 39), (Array.mk [])⟩
noncomputable def r6_1061 (P : Params) : Obj := (.mk (.type "tuple") .none (.seq (Array.mk [(.int (.ofNat (nat_lit 36038143004114944)) (nat_lit 2481)), (.int (.ofNat (nat_lit 549890031616)) (nat_lit 2482)), (.int (.ofNat (nat_lit 2097184)) (nat_lit 2483)), (.int (.ofNat (nat_lit 36038143004114976)) (nat_lit 2484)), (.int (.ofNat (nat_lit 2097152)) (nat_lit 2485)), (.int (.ofNat (nat_lit 36038143002017824)) (nat_lit 2486)), (.int (.ofNat (nat_lit 549890031648)) (nat_lit 2487)), (.int (.ofNat (nat_lit 2097184)) (nat_lit 2488)), (.int (.ofNat (nat_lit 36038143002017824)) (nat_lit 2489)), (.int (.ofNat (nat_lit 36038143004114944)) (nat_lit 2490)), (.int (.ofNat (nat_lit 549892128768)) (nat_lit 2491)), (.int (.ofNat (nat_lit 36037593111986208)) (nat_lit 2492)), (.int (.ofNat (nat_lit 36037593114083360)) (nat_lit 2493)), (.int (.ofNat (nat_lit 2097152)) (nat_lit 2494)), (.int (.ofNat (nat_lit 0)) (nat_lit 2495)), (.int (.ofNat (nat_lit 549890031648)) (nat_lit 2496)), (.int (.ofNat (nat_lit 549890031616)) (nat_lit 2497)), (.int (.ofNat (nat_lit 32)) (nat_lit 2498)), (.int (.ofNat (nat_lit 36037593114083328)) (nat_lit 2499)), (.int (.ofNat (nat_lit 36038143002017792)) (nat_lit 2500)), (.int (.ofNat (nat_lit 36038143004114976)) (nat_lit 2501)), (.int (.ofNat (nat_lit 549892128768)) (nat_lit 2502)), (.int (.ofNat (nat_lit 36037593111986208)) (nat_lit 2503)), (.int (.ofNat (nat_lit 36037593114083328)) (nat_lit 2504)), (.int (.ofNat (nat_lit 32)) (nat_lit 2505)), (.int (.ofNat (nat_lit 36037593111986176)) (nat_lit 2506)), (.int (.ofNat (nat_lit 36038143002017792)) (nat_lit 2507)), (.int (.ofNat (nat_lit 549892128800)) (nat_lit 2508)), (.int (.ofNat (nat_lit 36037593111986176)) (nat_lit 2509)), (.int (.ofNat (nat_lit 36037593114083360)) (nat_lit 2510)), (.int (.ofNat (nat_lit 549892128800)) (nat_lit 2511)), (.int (.ofNat (nat_lit 0)) (nat_lit 2512)), (.int (.ofNat (nat_lit 0)) (nat_lit 2513)), (.int (.ofNat (nat_lit 36038143004114976)) (nat_lit 2514)), (.int (.ofNat (nat_lit 36037593114083328)) (nat_lit 2515)), (.int (.ofNat (nat_lit 549890031648)) (nat_lit 2516)), (.int (.ofNat (nat_lit 36038143004114944)) (nat_lit 2517)), (.int (.ofNat (nat_lit 549890031616)) (nat_lit 2518)), (.int (.ofNat (nat_lit 36037593111986208)) (nat_lit 2519)), (.int (.ofNat (nat_lit 36037593114083328)) (nat_lit 2520)), (.int (.ofNat (nat_lit 549892128800)) (nat_lit 2521)), (.int (.ofNat (nat_lit 36037593111986176)) (nat_lit 2522)), (.int (.ofNat (nat_lit 36038143002017792)) (nat_lit 2523)), (.int (.ofNat (nat_lit 2097184)) (nat_lit 2524)), (.int (.ofNat (nat_lit 36038143002017824)) (nat_lit 2525)), (.int (.ofNat (nat_lit 32)) (nat_lit 2526)), (.int (.ofNat (nat_lit 2097184)) (nat_lit 2527)), (.int (.ofNat (nat_lit 549892128768)) (nat_lit 2528)), (.int (.ofNat (nat_lit 36038143004114976)) (nat_lit 2529)), (.int (.ofNat (nat_lit 36038143002017792)) (nat_lit 2530)), (.int (.ofNat (nat_lit 549892128768)) (nat_lit 2531)), (.int (.ofNat (nat_lit 36037593114083360)) (nat_lit 2532)), (.int (.ofNat (nat_lit 2097152)) (nat_lit 2533)), (.int (.ofNat (nat_lit 36037593111986208)) (nat_lit 2534)), (.int (.ofNat (nat_lit 549890031648)) (nat_lit 2535)), (.int (.ofNat (nat_lit 0)) (nat_lit 2536)), (.int (.ofNat (nat_lit 549890031616)) (nat_lit 2537)), (.int (.ofNat (nat_lit 2097152)) (nat_lit 2538)), (.int (.ofNat (nat_lit 36037593114083360)) (nat_lit 2539)), (.int (.ofNat (nat_lit 36038143004114944)) (nat_lit 2540)), (.int (.ofNat (nat_lit 32)) (nat_lit 2541)), (.int (.ofNat (nat_lit 549892128800)) (nat_lit 2542)), (.int (.ofNat (nat_lit 36037593111986176)) (nat_lit 2543)), (.int (.ofNat (nat_lit 36038143002017824)) (nat_lit 2544))]) (nat_lit 0)) (Array.mk []))
noncomputable def r6_1062 (P : Params) : Obj := (.mk (.type "tuple") .none (.seq (Array.mk [(.int (.ofNat (nat_lit 1153062276723392516)) (nat_lit 2545)), (.int (.ofNat (nat_lit 0)) (nat_lit 2546)), (.int (.ofNat (nat_lit 140772116529152)) (nat_lit 2547)), (.int (.ofNat (nat_lit 268451844)) (nat_lit 2548)), (.int (.ofNat (nat_lit 1152921504606863364)) (nat_lit 2549)), (.int (.ofNat (nat_lit 1153062276454940672)) (nat_lit 2550)), (.int (.ofNat (nat_lit 140771848110084)) (nat_lit 2551)), (.int (.ofNat (nat_lit 140772116529152)) (nat_lit 2552)), (.int (.ofNat (nat_lit 140771848093696)) (nat_lit 2553)), (.int (.ofNat (nat_lit 1152921504875298820)) (nat_lit 2554)), (.int (.ofNat (nat_lit 1152921504606846976)) (nat_lit 2555)), (.int (.ofNat (nat_lit 140771848110084)) (nat_lit 2556)), (.int (.ofNat (nat_lit 1152921504875282432)) (nat_lit 2557)), (.int (.ofNat (nat_lit 140772116545540)) (nat_lit 2558)), (.int (.ofNat (nat_lit 268451844)) (nat_lit 2559)), (.int (.ofNat (nat_lit 1152921504606846976)) (nat_lit 2560)), (.int (.ofNat (nat_lit 268435456)) (nat_lit 2561)), (.int (.ofNat (nat_lit 1153062276454957060)) (nat_lit 2562)), (.int (.ofNat (nat_lit 1152921504875298820)) (nat_lit 2563)), (.int (.ofNat (nat_lit 140771848093696)) (nat_lit 2564)), (.int (.ofNat (nat_lit 1153062276723376128)) (nat_lit 2565)), (.int (.ofNat (nat_lit 16388)) (nat_lit 2566)), (.int (.ofNat (nat_lit 0)) (nat_lit 2567)), (.int (.ofNat (nat_lit 1152921504875282432)) (nat_lit 2568)), (.int (.ofNat (nat_lit 1153062276454957060)) (nat_lit 2569)), (.int (.ofNat (nat_lit 1153062276723376128)) (nat_lit 2570)), (.int (.ofNat (nat_lit 140772116545540)) (nat_lit 2571)), (.int (.ofNat (nat_lit 1152921504606863364)) (nat_lit 2572)), (.int (.ofNat (nat_lit 16388)) (nat_lit 2573)), (.int (.ofNat (nat_lit 268435456)) (nat_lit 2574)), (.int (.ofNat (nat_lit 1153062276454940672)) (nat_lit 2575)), (.int (.ofNat (nat_lit 1153062276723392516)) (nat_lit 2576)), (.int (.ofNat (nat_lit 1152921504875282432)) (nat_lit 2577)), (.int (.ofNat (nat_lit 140772116545540)) (nat_lit 2578)), (.int (.ofNat (nat_lit 140771848110084)) (nat_lit 2579)), (.int (.ofNat (nat_lit 1153062276723376128)) (nat_lit 2580)), (.int (.ofNat (nat_lit 1153062276723392516)) (nat_lit 2581)), (.int (.ofNat (nat_lit 1152921504875282432)) (nat_lit 2582)), (.int (.ofNat (nat_lit 1152921504606863364)) (nat_lit 2583)), (.int (.ofNat (nat_lit 0)) (nat_lit 2584)), (.int (.ofNat (nat_lit 16388)) (nat_lit 2585)), (.int (.ofNat (nat_lit 1153062276454940672)) (nat_lit 2586)), (.int (.ofNat (nat_lit 268435456)) (nat_lit 2587)), (.int (.ofNat (nat_lit 1152921504875298820)) (nat_lit 2588)), (.int (.ofNat (nat_lit 140771848093696)) (nat_lit 2589)), (.int (.ofNat (nat_lit 16388)) (nat_lit 2590)), (.int (.ofNat (nat_lit 1153062276723376128)) (nat_lit 2591)), (.int (.ofNat (nat_lit 1153062276454957060)) (nat_lit 2592)), (.int (.ofNat (nat_lit 140772116545540)) (nat_lit 2593)), (.int (.ofNat (nat_lit 140771848093696)) (nat_lit 2594)), (.int (.ofNat (nat_lit 0)) (nat_lit 2595)), (.int (.ofNat (nat_lit 1152921504606863364)) (nat_lit 2596)), (.int (.ofNat (nat_lit 1152921504606846976)) (nat_lit 2597)), (.int (.ofNat (nat_lit 1153062276723392516)) (nat_lit 2598)), (.int (.ofNat (nat_lit 140772116529152)) (nat_lit 2599)), (.int (.ofNat (nat_lit 268451844)) (nat_lit 2600)), (.int (.ofNat (nat_lit 1152921504875298820)) (nat_lit 2601)), (.int (.ofNat (nat_lit 268435456)) (nat_lit 2602)), (.int (.ofNat (nat_lit 1153062276454940672)) (nat_lit 2603)), (.int (.ofNat (nat_lit 140771848110084)) (nat_lit 2604)), (.int (.ofNat (nat_lit 1153062276454957060)) (nat_lit 2605)), (.int (.ofNat (nat_lit 1152921504606846976)) (nat_lit 2606)), (.int (.ofNat (nat_lit 268451844)) (nat_lit 2607)), (.int (.ofNat (nat_lit 140772116529152)) (nat_lit 2608))]) (nat_lit 0)) (Array.mk []))
noncomputable def r6_1063 (P : Params) : Obj := (.mk (.type "tuple") .none (.seq (Array.mk [(.int (.ofNat (nat_lit 4195344)) (nat_lit 2609)), (.int (.ofNat (nat_lit 4503874576581632)) (nat_lit 2610)), (.int (.ofNat (nat_lit 4503599627370496)) (nat_lit 2611)), (.int (.ofNat (nat_lit 4503599631565840)) (nat_lit 2612)), (.int (.ofNat (nat_lit 274945015824)) (nat_lit 2613)), (.int (.ofNat (nat_lit 4195328)) (nat_lit 2614)), (.int (.ofNat (nat_lit 4503599631565840)) (nat_lit 2615)), (.int (.ofNat (nat_lit 4503874572386304)) (nat_lit 2616)), (.int (.ofNat (nat_lit 4503599631565824)) (nat_lit 2617)), (.int (.ofNat (nat_lit 274945015808)) (nat_lit 2618)), (.int (.ofNat (nat_lit 274949211136)) (nat_lit 2619)), (.int (.ofNat (nat_lit 16)) (nat_lit 2620)), (.int (.ofNat (nat_lit 4503874576581648)) (nat_lit 2621)), (.int (.ofNat (nat_lit 4503599627370512)) (nat_lit 2622)), (.int (.ofNat (nat_lit 16)) (nat_lit 2623)), (.int (.ofNat (nat_lit 274949211152)) (nat_lit 2624)), (.int (.ofNat (nat_lit 0)) (nat_lit 2625)), (.int (.ofNat (nat_lit 274945015824)) (nat_lit 2626)), (.int (.ofNat (nat_lit 4503874576581632)) (nat_lit 2627)), (.int (.ofNat (nat_lit 4503599627370496)) (nat_lit 2628)), (.int (.ofNat (nat_lit 4503599627370512)) (nat_lit 2629)), (.int (.ofNat (nat_lit 4503874576581648)) (nat_lit 2630)), (.int (.ofNat (nat_lit 274945015808)) (nat_lit 2631)), (.int (.ofNat (nat_lit 4195344)) (nat_lit 2632)), (.int (.ofNat (nat_lit 274949211152)) (nat_lit 2633)), (.int (.ofNat (nat_lit 4503599631565824)) (nat_lit 2634)), (.int (.ofNat (nat_lit 4503874572386320)) (nat_lit 2635)), (.int (.ofNat (nat_lit 274949211136)) (nat_lit 2636)), (.int (.ofNat (nat_lit 4503874572386304)) (nat_lit 2637)), (.int (.ofNat (nat_lit 0)) (nat_lit 2638)), (.int (.ofNat (nat_lit 4195328)) (nat_lit 2639)), (.int (.ofNat (nat_lit 4503874572386320)) (nat_lit 2640)), (.int (.ofNat (nat_lit 4503874576581632)) (nat_lit 2641)), (.int (.ofNat (nat_lit 4503599627370496)) (nat_lit 2642)), (.int (.ofNat (nat_lit 16)) (nat_lit 2643)), (.int (.ofNat (nat_lit 274945015808)) (nat_lit 2644)), (.int (.ofNat (nat_lit 4503599627370512)) (nat_lit 2645)), (.int (.ofNat (nat_lit 274945015824)) (nat_lit 2646)), (.int (.ofNat (nat_lit 274949211136)) (nat_lit 2647)), (.int (.ofNat (nat_lit 4503599631565840)) (nat_lit 2648)), (.int (.ofNat (nat_lit 0)) (nat_lit 2649)), (.int (.ofNat (nat_lit 4503874576581632)) (nat_lit 2650)), (.int (.ofNat (nat_lit 4503874572386304)) (nat_lit 2651)), (.int (.ofNat (nat_lit 274949211152)) (nat_lit 2652)), (.int (.ofNat (nat_lit 274945015824)) (nat_lit 2653)), (.int (.ofNat (nat_lit 4195328)) (nat_lit 2654)), (.int (.ofNat (nat_lit 4503874576581648)) (nat_lit 2655)), (.int (.ofNat (nat_lit 16)) (nat_lit 2656)), (.int (.ofNat (nat_lit 4503874572386320)) (nat_lit 2657)), (.int (.ofNat (nat_lit 4195344)) (nat_lit 2658)), (.int (.ofNat (nat_lit 4195328)) (nat_lit 2659)), (.int (.ofNat (nat_lit 4503874576581648)) (nat_lit 2660)), (.int (.ofNat (nat_lit 274945015808)) (nat_lit 2661)), (.int (.ofNat (nat_lit 4503599631565824)) (nat_lit 2662)), (.int (.ofNat (nat_lit 4503599631565840)) (nat_lit 2663)), (.int (.ofNat (nat_lit 4503874572386304)) (nat_lit 2664)), (.int (.ofNat (nat_lit 4503599631565824)) (nat_lit 2665)), (.int (.ofNat (nat_lit 0)) (nat_lit 2666)), (.int (.ofNat (nat_lit 274949211152)) (nat_lit 2667)), (.int (.ofNat (nat_lit 4503599627370512)) (nat_lit 2668)), (.int (.ofNat (nat_lit 4195344)) (nat_lit 2669)), (.int (.ofNat (nat_lit 4503874572386320)) (nat_lit 2670)), (.int (.ofNat (nat_lit 4503599627370496)) (nat_lit 2671)), (.int (.ofNat (nat_lit 274949211136)) (nat_lit 2672))]) (nat_lit 0)) (Array.mk []))
noncomputable def r6_1064 (P : Params) : Obj := (.mk (.type "tuple") .none (.seq (Array.mk [(.int (.ofNat (nat_lit 576478345563472000)) (nat_lit 2673)), (.int (.ofNat (nat_lit 17592186048512)) (nat_lit 2674)), (.int (.ofNat (nat_lit 576460752303423616)) (nat_lit 2675)), (.int (.ofNat (nat_lit 576478345563476096)) (nat_lit 2676)), (.int (.ofNat (nat_lit 0)) (nat_lit 2677)), (.int (.ofNat (nat_lit 1074008064)) (nat_lit 2678)), (.int (.ofNat (nat_lit 576478344489472128)) (nat_lit 2679)), (.int (.ofNat (nat_lit 576460753377427584)) (nat_lit 2680)), (.int (.ofNat (nat_lit 17593260052480)) (nat_lit 2681)), (.int (.ofNat (nat_lit 576460752303427712)) (nat_lit 2682)), (.int (.ofNat (nat_lit 4096)) (nat_lit 2683)), (.int (.ofNat (nat_lit 576478344489468032)) (nat_lit 2684)), (.int (.ofNat (nat_lit 576460752303427712)) (nat_lit 2685)), (.int (.ofNat (nat_lit 576478345563472000)) (nat_lit 2686)), (.int (.ofNat (nat_lit 1074003968)) (nat_lit 2687)), (.int (.ofNat (nat_lit 4096)) (nat_lit 2688)), (.int (.ofNat (nat_lit 576460753377431680)) (nat_lit 2689)), (.int (.ofNat (nat_lit 17593260048384)) (nat_lit 2690)), (.int (.ofNat (nat_lit 17592186044416)) (nat_lit 2691)), (.int (.ofNat (nat_lit 576460752303423616)) (nat_lit 2692)), (.int (.ofNat (nat_lit 17593260048384)) (nat_lit 2693)), (.int (.ofNat (nat_lit 576478344489472128)) (nat_lit 2694)), (.int (.ofNat (nat_lit 1074008064)) (nat_lit 2695)), (.int (.ofNat (nat_lit 17592186044416)) (nat_lit 2696)), (.int (.ofNat (nat_lit 576478344489468032)) (nat_lit 2697)), (.int (.ofNat (nat_lit 0)) (nat_lit 2698)), (.int (.ofNat (nat_lit 576460753377427584)) (nat_lit 2699)), (.int (.ofNat (nat_lit 17593260052480)) (nat_lit 2700)), (.int (.ofNat (nat_lit 17592186048512)) (nat_lit 2701)), (.int (.ofNat (nat_lit 576460753377431680)) (nat_lit 2702)), (.int (.ofNat (nat_lit 576478345563476096)) (nat_lit 2703)), (.int (.ofNat (nat_lit 1074003968)) (nat_lit 2704)), (.int (.ofNat (nat_lit 576460753377431680)) (nat_lit 2705)), (.int (.ofNat (nat_lit 576478344489468032)) (nat_lit 2706)), (.int (.ofNat (nat_lit 1074003968)) (nat_lit 2707)), (.int (.ofNat (nat_lit 576460752303427712)) (nat_lit 2708)), (.int (.ofNat (nat_lit 17593260048384)) (nat_lit 2709)), (.int (.ofNat (nat_lit 17592186048512)) (nat_lit 2710)), (.int (.ofNat (nat_lit 576460752303423616)) (nat_lit 2711)), (.int (.ofNat (nat_lit 1074008064)) (nat_lit 2712)), (.int (.ofNat (nat_lit 576478344489472128)) (nat_lit 2713)), (.int (.ofNat (nat_lit 0)) (nat_lit 2714)), (.int (.ofNat (nat_lit 17592186044416)) (nat_lit 2715)), (.int (.ofNat (nat_lit 576460753377427584)) (nat_lit 2716)), (.int (.ofNat (nat_lit 0)) (nat_lit 2717)), (.int (.ofNat (nat_lit 576460753377431680)) (nat_lit 2718)), (.int (.ofNat (nat_lit 17593260052480)) (nat_lit 2719)), (.int (.ofNat (nat_lit 17592186044416)) (nat_lit 2720)), (.int (.ofNat (nat_lit 4096)) (nat_lit 2721)), (.int (.ofNat (nat_lit 576478345563476096)) (nat_lit 2722)), (.int (.ofNat (nat_lit 576478345563472000)) (nat_lit 2723)), (.int (.ofNat (nat_lit 1074003968)) (nat_lit 2724)), (.int (.ofNat (nat_lit 576478345563476096)) (nat_lit 2725)), (.int (.ofNat (nat_lit 576460752303423616)) (nat_lit 2726)), (.int (.ofNat (nat_lit 17592186048512)) (nat_lit 2727)), (.int (.ofNat (nat_lit 576478345563472000)) (nat_lit 2728)), (.int (.ofNat (nat_lit 576460753377427584)) (nat_lit 2729)), (.int (.ofNat (nat_lit 17593260048384)) (nat_lit 2730)), (.int (.ofNat (nat_lit 1074008064)) (nat_lit 2731)), (.int (.ofNat (nat_lit 576478344489472128)) (nat_lit 2732)), (.int (.ofNat (nat_lit 576478344489468032)) (nat_lit 2733)), (.int (.ofNat (nat_lit 4096)) (nat_lit 2734)), (.int (.ofNat (nat_lit 576460752303427712)) (nat_lit 2735)), (.int (.ofNat (nat_lit 17593260052480)) (nat_lit 2736))]) (nat_lit 0)) (Array.mk []))
noncomputable def r6_1065 (P : Params) : Obj := (.mk (.type "tuple") .none (.seq (Array.mk [(.int (.ofNat (nat_lit 8390656)) (nat_lit 2737)), (.int (.ofNat (nat_lit 68719476736)) (nat_lit 2738)), (.int (.ofNat (nat_lit 18018796555993088)) (nat_lit 2739)), (.int (.ofNat (nat_lit 2323861874497554432)) (nat_lit 2740)), (.int (.ofNat (nat_lit 2305843077941561344)) (nat_lit 2741)), (.int (.ofNat (nat_lit 18018796564383744)) (nat_lit 2742)), (.int (.ofNat (nat_lit 2323861874489163776)) (nat_lit 2743)), (.int (.ofNat (nat_lit 68727867392)) (nat_lit 2744)), (.int (.ofNat (nat_lit 68719476736)) (nat_lit 2745)), (.int (.ofNat (nat_lit 2305843009213693952)) (nat_lit 2746)), (.int (.ofNat (nat_lit 2305843009222084608)) (nat_lit 2747)), (.int (.ofNat (nat_lit 18018865275469824)) (nat_lit 2748)), (.int (.ofNat (nat_lit 2323861805778077696)) (nat_lit 2749)), (.int (.ofNat (nat_lit 2305843077941561344)) (nat_lit 2750)), (.int (.ofNat (nat_lit 18018865283860480)) (nat_lit 2751)), (.int (.ofNat (nat_lit 0)) (nat_lit 2752)), (.int (.ofNat (nat_lit 18018865275469824)) (nat_lit 2753)), (.int (.ofNat (nat_lit 8390656)) (nat_lit 2754)), (.int (.ofNat (nat_lit 2305843077933170688)) (nat_lit 2755)), (.int (.ofNat (nat_lit 2323861805769687040)) (nat_lit 2756)), (.int (.ofNat (nat_lit 18018796564383744)) (nat_lit 2757)), (.int (.ofNat (nat_lit 2323861874489163776)) (nat_lit 2758)), (.int (.ofNat (nat_lit 0)) (nat_lit 2759)), (.int (.ofNat (nat_lit 2305843009222084608)) (nat_lit 2760)), (.int (.ofNat (nat_lit 2305843009213693952)) (nat_lit 2761)), (.int (.ofNat (nat_lit 2323861805778077696)) (nat_lit 2762)), (.int (.ofNat (nat_lit 2323861874497554432)) (nat_lit 2763)), (.int (.ofNat (nat_lit 2305843077933170688)) (nat_lit 2764)), (.int (.ofNat (nat_lit 68727867392)) (nat_lit 2765)), (.int (.ofNat (nat_lit 18018796555993088)) (nat_lit 2766)), (.int (.ofNat (nat_lit 2323861805769687040)) (nat_lit 2767)), (.int (.ofNat (nat_lit 18018865283860480)) (nat_lit 2768)), (.int (.ofNat (nat_lit 18018865283860480)) (nat_lit 2769)), (.int (.ofNat (nat_lit 2323861805778077696)) (nat_lit 2770)), (.int (.ofNat (nat_lit 2305843077933170688)) (nat_lit 2771)), (.int (.ofNat (nat_lit 68727867392)) (nat_lit 2772)), (.int (.ofNat (nat_lit 68719476736)) (nat_lit 2773)), (.int (.ofNat (nat_lit 2305843009213693952)) (nat_lit 2774)), (.int (.ofNat (nat_lit 2305843009222084608)) (nat_lit 2775)), (.int (.ofNat (nat_lit 18018796564383744)) (nat_lit 2776)), (.int (.ofNat (nat_lit 8390656)) (nat_lit 2777)), (.int (.ofNat (nat_lit 18018865275469824)) (nat_lit 2778)), (.int (.ofNat (nat_lit 2323861874497554432)) (nat_lit 2779)), (.int (.ofNat (nat_lit 0)) (nat_lit 2780)), (.int (.ofNat (nat_lit 2323861874489163776)) (nat_lit 2781)), (.int (.ofNat (nat_lit 8390656)) (nat_lit 2782)), (.int (.ofNat (nat_lit 18018796555993088)) (nat_lit 2783)), (.int (.ofNat (nat_lit 2305843077933170688)) (nat_lit 2784)), (.int (.ofNat (nat_lit 2323861805778077696)) (nat_lit 2785)), (.int (.ofNat (nat_lit 18018796555993088)) (nat_lit 2786)), (.int (.ofNat (nat_lit 0)) (nat_lit 2787)), (.int (.ofNat (nat_lit 2323861874497554432)) (nat_lit 2788)), (.int (.ofNat (nat_lit 2305843077941561344)) (nat_lit 2789)), (.int (.ofNat (nat_lit 18018865283860480)) (nat_lit 2790)), (.int (.ofNat (nat_lit 2323861805769687040)) (nat_lit 2791)), (.int (.ofNat (nat_lit 68719476736)) (nat_lit 2792)), (.int (.ofNat (nat_lit 18018865275469824)) (nat_lit 2793)), (.int (.ofNat (nat_lit 2305843077941561344)) (nat_lit 2794)), (.int (.ofNat (nat_lit 18018796564383744)) (nat_lit 2795)), (.int (.ofNat (nat_lit 2323861805769687040)) (nat_lit 2796)), (.int (.ofNat (nat_lit 2305843009213693952)) (nat_lit 2797)), (.int (.ofNat (nat_lit 2323861874489163776)) (nat_lit 2798)), (.int (.ofNat (nat_lit 68727867392)) (nat_lit 2799)), (.int (.ofNat (nat_lit 2305843009222084608)) (nat_lit 2800))]) (nat_lit 0)) (Array.mk []))
noncomputable def r6_1066 (P : Params) : Obj := (.mk (.type "tuple") .none (.seq (Array.mk [(.int (.ofNat (nat_lit 4612811918334263304)) (nat_lit 2801)), (.int (.ofNat (nat_lit 4612811918871101440)) (nat_lit 2802)), (.int (.ofNat (nat_lit 0)) (nat_lit 2803)), (.int (.ofNat (nat_lit 35184908992520)) (nat_lit 2804)), (.int (.ofNat (nat_lit 4612811918871101440)) (nat_lit 2805)), (.int (.ofNat (nat_lit 35184372088832)) (nat_lit 2806)), (.int (.ofNat (nat_lit 4612847102706352136)) (nat_lit 2807)), (.int (.ofNat (nat_lit 536870912)) (nat_lit 2808)), (.int (.ofNat (nat_lit 4612847102706319360)) (nat_lit 2809)), (.int (.ofNat (nat_lit 4612847103243223048)) (nat_lit 2810)), (.int (.ofNat (nat_lit 35184908959744)) (nat_lit 2811)), (.int (.ofNat (nat_lit 32776)) (nat_lit 2812)), (.int (.ofNat (nat_lit 35184372121608)) (nat_lit 2813)), (.int (.ofNat (nat_lit 4612811918334263304)) (nat_lit 2814)), (.int (.ofNat (nat_lit 536903688)) (nat_lit 2815)), (.int (.ofNat (nat_lit 4612847103243190272)) (nat_lit 2816)), (.int (.ofNat (nat_lit 536870912)) (nat_lit 2817)), (.int (.ofNat (nat_lit 4612847102706352136)) (nat_lit 2818)), (.int (.ofNat (nat_lit 4612811918871134216)) (nat_lit 2819)), (.int (.ofNat (nat_lit 0)) (nat_lit 2820)), (.int (.ofNat (nat_lit 35184372088832)) (nat_lit 2821)), (.int (.ofNat (nat_lit 4612811918334230528)) (nat_lit 2822)), (.int (.ofNat (nat_lit 35184908992520)) (nat_lit 2823)), (.int (.ofNat (nat_lit 4612811918871134216)) (nat_lit 2824)), (.int (.ofNat (nat_lit 4612847103243223048)) (nat_lit 2825)), (.int (.ofNat (nat_lit 536903688)) (nat_lit 2826)), (.int (.ofNat (nat_lit 32776)) (nat_lit 2827)), (.int (.ofNat (nat_lit 4612847102706319360)) (nat_lit 2828)), (.int (.ofNat (nat_lit 4612811918334230528)) (nat_lit 2829)), (.int (.ofNat (nat_lit 35184908959744)) (nat_lit 2830)), (.int (.ofNat (nat_lit 4612847103243190272)) (nat_lit 2831)), (.int (.ofNat (nat_lit 35184372121608)) (nat_lit 2832)), (.int (.ofNat (nat_lit 4612847102706319360)) (nat_lit 2833)), (.int (.ofNat (nat_lit 32776)) (nat_lit 2834)), (.int (.ofNat (nat_lit 35184372121608)) (nat_lit 2835)), (.int (.ofNat (nat_lit 4612847103243190272)) (nat_lit 2836)), (.int (.ofNat (nat_lit 35184908992520)) (nat_lit 2837)), (.int (.ofNat (nat_lit 4612811918871101440)) (nat_lit 2838)), (.int (.ofNat (nat_lit 0)) (nat_lit 2839)), (.int (.ofNat (nat_lit 35184372121608)) (nat_lit 2840)), (.int (.ofNat (nat_lit 32776)) (nat_lit 2841)), (.int (.ofNat (nat_lit 35184372088832)) (nat_lit 2842)), (.int (.ofNat (nat_lit 4612811918871134216)) (nat_lit 2843)), (.int (.ofNat (nat_lit 536870912)) (nat_lit 2844)), (.int (.ofNat (nat_lit 4612811918871101440)) (nat_lit 2845)), (.int (.ofNat (nat_lit 4612847103243223048)) (nat_lit 2846)), (.int (.ofNat (nat_lit 35184908959744)) (nat_lit 2847)), (.int (.ofNat (nat_lit 4612811918334230528)) (nat_lit 2848)), (.int (.ofNat (nat_lit 4612847103243223048)) (nat_lit 2849)), (.int (.ofNat (nat_lit 35184908959744)) (nat_lit 2850)), (.int (.ofNat (nat_lit 536870912)) (nat_lit 2851)), (.int (.ofNat (nat_lit 4612847102706352136)) (nat_lit 2852)), (.int (.ofNat (nat_lit 4612811918334263304)) (nat_lit 2853)), (.int (.ofNat (nat_lit 536903688)) (nat_lit 2854)), (.int (.ofNat (nat_lit 4612847103243190272)) (nat_lit 2855)), (.int (.ofNat (nat_lit 0)) (nat_lit 2856)), (.int (.ofNat (nat_lit 35184372088832)) (nat_lit 2857)), (.int (.ofNat (nat_lit 4612811918334263304)) (nat_lit 2858)), (.int (.ofNat (nat_lit 4612847102706352136)) (nat_lit 2859)), (.int (.ofNat (nat_lit 35184908992520)) (nat_lit 2860)), (.int (.ofNat (nat_lit 536903688)) (nat_lit 2861)), (.int (.ofNat (nat_lit 4612847102706319360)) (nat_lit 2862)), (.int (.ofNat (nat_lit 4612811918334230528)) (nat_lit 2863)), (.int (.ofNat (nat_lit 4612811918871134216)) (nat_lit 2864))]) (nat_lit 0)) (Array.mk []))
noncomputable def r6_1067 (P : Params) : Obj := (.mk (.type "tuple") .none (.seq (Array.mk [(.int (.ofNat (nat_lit 70385924046848)) (nat_lit 2865)), (.int (.ofNat (nat_lit 9007199254740992)) (nat_lit 2866)), (.int (.ofNat (nat_lit 9007199255789568)) (nat_lit 2867)), (.int (.ofNat (nat_lit 288230376152760384)) (nat_lit 2868)), (.int (.ofNat (nat_lit 297307961331548224)) (nat_lit 2869)), (.int (.ofNat (nat_lit 288300762075758656)) (nat_lit 2870)), (.int (.ofNat (nat_lit 9077585178787840)) (nat_lit 2871)), (.int (.ofNat (nat_lit 0)) (nat_lit 2872)), (.int (.ofNat (nat_lit 1048576)) (nat_lit 2873)), (.int (.ofNat (nat_lit 297237575407501376)) (nat_lit 2874)), (.int (.ofNat (nat_lit 297237575406452800)) (nat_lit 2875)), (.int (.ofNat (nat_lit 70385925095424)) (nat_lit 2876)), (.int (.ofNat (nat_lit 288230376151711808)) (nat_lit 2877)), (.int (.ofNat (nat_lit 9077585179836416)) (nat_lit 2878)), (.int (.ofNat (nat_lit 70385925095424)) (nat_lit 2879)), (.int (.ofNat (nat_lit 297237575406452800)) (nat_lit 2880)), (.int (.ofNat (nat_lit 297237575407501376)) (nat_lit 2881)), (.int (.ofNat (nat_lit 70385924046848)) (nat_lit 2882)), (.int (.ofNat (nat_lit 288300762075758656)) (nat_lit 2883)), (.int (.ofNat (nat_lit 297307961331548224)) (nat_lit 2884)), (.int (.ofNat (nat_lit 0)) (nat_lit 2885)), (.int (.ofNat (nat_lit 9007199255789568)) (nat_lit 2886)), (.int (.ofNat (nat_lit 288230376152760384)) (nat_lit 2887)), (.int (.ofNat (nat_lit 9077585178787840)) (nat_lit 2888)), (.int (.ofNat (nat_lit 288300762076807232)) (nat_lit 2889)), (.int (.ofNat (nat_lit 297307961330499648)) (nat_lit 2890)), (.int (.ofNat (nat_lit 9077585179836416)) (nat_lit 2891)), (.int (.ofNat (nat_lit 288230376151711808)) (nat_lit 2892)), (.int (.ofNat (nat_lit 297307961330499648)) (nat_lit 2893)), (.int (.ofNat (nat_lit 288300762076807232)) (nat_lit 2894)), (.int (.ofNat (nat_lit 9007199254740992)) (nat_lit 2895)), (.int (.ofNat (nat_lit 1048576)) (nat_lit 2896)), (.int (.ofNat (nat_lit 297307961330499648)) (nat_lit 2897)), (.int (.ofNat (nat_lit 70385925095424)) (nat_lit 2898)), (.int (.ofNat (nat_lit 288300762076807232)) (nat_lit 2899)), (.int (.ofNat (nat_lit 297237575406452800)) (nat_lit 2900)), (.int (.ofNat (nat_lit 70385924046848)) (nat_lit 2901)), (.int (.ofNat (nat_lit 9007199254740992)) (nat_lit 2902)), (.int (.ofNat (nat_lit 1048576)) (nat_lit 2903)), (.int (.ofNat (nat_lit 288300762076807232)) (nat_lit 2904)), (.int (.ofNat (nat_lit 297237575407501376)) (nat_lit 2905)), (.int (.ofNat (nat_lit 297307961330499648)) (nat_lit 2906)), (.int (.ofNat (nat_lit 9077585178787840)) (nat_lit 2907)), (.int (.ofNat (nat_lit 0)) (nat_lit 2908)), (.int (.ofNat (nat_lit 9007199254740992)) (nat_lit 2909)), (.int (.ofNat (nat_lit 288230376152760384)) (nat_lit 2910)), (.int (.ofNat (nat_lit 288230376151711808)) (nat_lit 2911)), (.int (.ofNat (nat_lit 9007199255789568)) (nat_lit 2912)), (.int (.ofNat (nat_lit 0)) (nat_lit 2913)), (.int (.ofNat (nat_lit 297237575407501376)) (nat_lit 2914)), (.int (.ofNat (nat_lit 9007199255789568)) (nat_lit 2915)), (.int (.ofNat (nat_lit 9077585178787840)) (nat_lit 2916)), (.int (.ofNat (nat_lit 297237575406452800)) (nat_lit 2917)), (.int (.ofNat (nat_lit 70385924046848)) (nat_lit 2918)), (.int (.ofNat (nat_lit 297307961331548224)) (nat_lit 2919)), (.int (.ofNat (nat_lit 1048576)) (nat_lit 2920)), (.int (.ofNat (nat_lit 9077585179836416)) (nat_lit 2921)), (.int (.ofNat (nat_lit 288230376151711808)) (nat_lit 2922)), (.int (.ofNat (nat_lit 288300762075758656)) (nat_lit 2923)), (.int (.ofNat (nat_lit 297307961331548224)) (nat_lit 2924)), (.int (.ofNat (nat_lit 288230376152760384)) (nat_lit 2925)), (.int (.ofNat (nat_lit 9077585179836416)) (nat_lit 2926)), (.int (.ofNat (nat_lit 70385925095424)) (nat_lit 2927)), (.int (.ofNat (nat_lit 288300762075758656)) (nat_lit 2928))]) (nat_lit 0)) (Array.mk []))
noncomputable def r6_1068 (P : Params) : Obj := (.mk (.type "tuple") .none (.seq (Array.mk [(.int (.ofNat (nat_lit 9225623838816477184)) (nat_lit 2929)), (.int (.ofNat (nat_lit 139586969600)) (nat_lit 2930)), (.int (.ofNat (nat_lit 9225623974107414528)) (nat_lit 2931)), (.int (.ofNat (nat_lit 0)) (nat_lit 2932)), (.int (.ofNat (nat_lit 137438961664)) (nat_lit 2933)), (.int (.ofNat (nat_lit 9225623838816468992)) (nat_lit 2934)), (.int (.ofNat (nat_lit 2148016128)) (nat_lit 2935)), (.int (.ofNat (nat_lit 9225623976255430656)) (nat_lit 2936)), (.int (.ofNat (nat_lit 9225623836668461056)) (nat_lit 2937)), (.int (.ofNat (nat_lit 8192)) (nat_lit 2938)), (.int (.ofNat (nat_lit 139586961408)) (nat_lit 2939)), (.int (.ofNat (nat_lit 9225623974107414528)) (nat_lit 2940)), (.int (.ofNat (nat_lit 9225623976255422464)) (nat_lit 2941)), (.int (.ofNat (nat_lit 9225623974107422720)) (nat_lit 2942)), (.int (.ofNat (nat_lit 9225623836668469248)) (nat_lit 2943)), (.int (.ofNat (nat_lit 2148016128)) (nat_lit 2944)), (.int (.ofNat (nat_lit 137438953472)) (nat_lit 2945)), (.int (.ofNat (nat_lit 9225623976255422464)) (nat_lit 2946)), (.int (.ofNat (nat_lit 9225623838816468992)) (nat_lit 2947)), (.int (.ofNat (nat_lit 137438961664)) (nat_lit 2948)), (.int (.ofNat (nat_lit 9225623976255430656)) (nat_lit 2949)), (.int (.ofNat (nat_lit 9225623836668469248)) (nat_lit 2950)), (.int (.ofNat (nat_lit 0)) (nat_lit 2951)), (.int (.ofNat (nat_lit 139586961408)) (nat_lit 2952)), (.int (.ofNat (nat_lit 8192)) (nat_lit 2953)), (.int (.ofNat (nat_lit 2148007936)) (nat_lit 2954)), (.int (.ofNat (nat_lit 9225623974107422720)) (nat_lit 2955)), (.int (.ofNat (nat_lit 9225623838816477184)) (nat_lit 2956)), (.int (.ofNat (nat_lit 2148007936)) (nat_lit 2957)), (.int (.ofNat (nat_lit 137438953472)) (nat_lit 2958)), (.int (.ofNat (nat_lit 139586969600)) (nat_lit 2959)), (.int (.ofNat (nat_lit 9225623836668461056)) (nat_lit 2960)), (.int (.ofNat (nat_lit 2148007936)) (nat_lit 2961)), (.int (.ofNat (nat_lit 137438953472)) (nat_lit 2962)), (.int (.ofNat (nat_lit 9225623836668469248)) (nat_lit 2963)), (.int (.ofNat (nat_lit 9225623976255430656)) (nat_lit 2964)), (.int (.ofNat (nat_lit 9225623974107414528)) (nat_lit 2965)), (.int (.ofNat (nat_lit 8192)) (nat_lit 2966)), (.int (.ofNat (nat_lit 0)) (nat_lit 2967)), (.int (.ofNat (nat_lit 139586961408)) (nat_lit 2968)), (.int (.ofNat (nat_lit 9225623838816477184)) (nat_lit 2969)), (.int (.ofNat (nat_lit 9225623974107422720)) (nat_lit 2970)), (.int (.ofNat (nat_lit 137438961664)) (nat_lit 2971)), (.int (.ofNat (nat_lit 9225623838816468992)) (nat_lit 2972)), (.int (.ofNat (nat_lit 139586969600)) (nat_lit 2973)), (.int (.ofNat (nat_lit 9225623836668461056)) (nat_lit 2974)), (.int (.ofNat (nat_lit 9225623838816468992)) (nat_lit 2975)), (.int (.ofNat (nat_lit 137438961664)) (nat_lit 2976)), (.int (.ofNat (nat_lit 9225623976255430656)) (nat_lit 2977)), (.int (.ofNat (nat_lit 2148007936)) (nat_lit 2978)), (.int (.ofNat (nat_lit 2148016128)) (nat_lit 2979)), (.int (.ofNat (nat_lit 9225623836668469248)) (nat_lit 2980)), (.int (.ofNat (nat_lit 139586961408)) (nat_lit 2981)), (.int (.ofNat (nat_lit 9225623974107414528)) (nat_lit 2982)), (.int (.ofNat (nat_lit 9225623974107422720)) (nat_lit 2983)), (.int (.ofNat (nat_lit 2148016128)) (nat_lit 2984)), (.int (.ofNat (nat_lit 9225623836668461056)) (nat_lit 2985)), (.int (.ofNat (nat_lit 139586969600)) (nat_lit 2986)), (.int (.ofNat (nat_lit 9225623976255422464)) (nat_lit 2987)), (.int (.ofNat (nat_lit 0)) (nat_lit 2988)), (.int (.ofNat (nat_lit 8192)) (nat_lit 2989)), (.int (.ofNat (nat_lit 9225623838816477184)) (nat_lit 2990)), (.int (.ofNat (nat_lit 137438953472)) (nat_lit 2991)), (.int (.ofNat (nat_lit 9225623976255422464)) (nat_lit 2992))]) (nat_lit 0)) (Array.mk []))
noncomputable def r6_1069 (P : Params) : Obj := (.mk (.type "tuple") .none (.seq (Array.mk [(.ref (nat_lit 1061)), (.ref (nat_lit 1062)), (.ref (nat_lit 1063)), (.ref (nat_lit 1064)), (.ref (nat_lit 1065)), (.ref (nat_lit 1066)), (.ref (nat_lit 1067)), (.ref (nat_lit 1068))]) (nat_lit 0)) (Array.mk []))
noncomputable def r6T (P : Params) : BT := (BT.ins (BT.ins (BT.ins (BT.ins (BT.ins (BT.ins (BT.ins (BT.ins (BT.ins (BT.ins (r5T P) (nat_lit 3) (r6_3 P)) (nat_lit 1061) (r6_1061 P)) (nat_lit 1062) (r6_1062 P)) (nat_lit 1063) (r6_1063 P)) (nat_lit 1064) (r6_1064 P)) (nat_lit 1065) (r6_1065 P)) (nat_lit 1066) (r6_1066 P)) (nat_lit 1067) (r6_1067 P)) (nat_lit 1068) (r6_1068 P)) (nat_lit 1069) (r6_1069 P))
noncomputable def r6S (w : World) (os : OsState) : SharedT := ⟨r6T w.params, nat_lit 1070, {}, Array.mk [.finished, .finished], {}, nat_lit 2994, os⟩
noncomputable def rE7 (P : Params) : Array DictEntry := (Array.push (Array.push (rE6 P) (.mk (KH P n77) (.str n77 (nat_lit 3250)) (.ref (nat_lit 1086)))) (.mk (KH P n78) (.str n78 (nat_lit 3260)) (.ref (nat_lit 1093))))
noncomputable def r7_3 (P : Params) : Obj := ⟨(.type "dict"), .none, .dict (rE7 P) (nat_lit 41), (Array.mk [])⟩
noncomputable def r7_12 (P : Params) : Obj := (.mk .none .none (.fields (Array.mk [(.int (.ofNat (nat_lit 1)) (nat_lit 0)), (.int (.ofNat (nat_lit 0)) (nat_lit 0)), (.ref (nat_lit 20)), (.int (.ofNat (nat_lit 5)) (nat_lit 0)), (.int (.ofNat (nat_lit 0)) (nat_lit 0)), (.ref (nat_lit 27)), (.int (.ofNat (nat_lit 9)) (nat_lit 0)), (.int (.ofNat (nat_lit 0)) (nat_lit 0)), (.ref (nat_lit 34)), (.int (.ofNat (nat_lit 11)) (nat_lit 0)), (.int (.ofNat (nat_lit 0)) (nat_lit 0)), (.ref (nat_lit 47)), (.int (.ofNat (nat_lit 13)) (nat_lit 0)), (.int (.ofNat (nat_lit 0)) (nat_lit 0)), (.ref (nat_lit 54)), (.int (.ofNat (nat_lit 15)) (nat_lit 0)), (.int (.ofNat (nat_lit 0)) (nat_lit 0)), (.ref (nat_lit 61)), (.int (.ofNat (nat_lit 17)) (nat_lit 0)), (.int (.ofNat (nat_lit 0)) (nat_lit 0)), (.ref (nat_lit 69)), (.int (.ofNat (nat_lit 24)) (nat_lit 0)), (.int (.ofNat (nat_lit 0)) (nat_lit 0)), (.ref (nat_lit 76)), (.int (.ofNat (nat_lit 30)) (nat_lit 0)), (.int (.ofNat (nat_lit 0)) (nat_lit 0)), (.ref (nat_lit 84)), (.int (.ofNat (nat_lit 34)) (nat_lit 0)), (.int (.ofNat (nat_lit 0)) (nat_lit 0)), (.ref (nat_lit 91)), (.int (.ofNat (nat_lit 270)) (nat_lit 0)), (.int (.ofNat (nat_lit 0)) (nat_lit 0)), (.ref (nat_lit 298)), (.int (.ofNat (nat_lit 285)) (nat_lit 0)), (.int (.ofNat (nat_lit 0)) (nat_lit 0)), (.ref (nat_lit 1092))])) (Array.mk []))
noncomputable def r7_1070 (P : Params) : Obj := (.mk (.type "tuple") .none (.seq (Array.mk [(.int (.ofNat (nat_lit 0)) (nat_lit 2994)), (.int (.ofNat (nat_lit 137438953472)) (nat_lit 2995)), (.int (.ofNat (nat_lit 35184372088832)) (nat_lit 2996)), (.int (.ofNat (nat_lit 35321811042304)) (nat_lit 2997)), (.int (.ofNat (nat_lit 9007199254740992)) (nat_lit 2998)), (.int (.ofNat (nat_lit 9007336693694464)) (nat_lit 2999)), (.int (.ofNat (nat_lit 9042383626829824)) (nat_lit 3000)), (.int (.ofNat (nat_lit 9042521065783296)) (nat_lit 3001)), (.int (.ofNat (nat_lit 2305843009213693952)) (nat_lit 3002)), (.int (.ofNat (nat_lit 2305843146652647424)) (nat_lit 3003)), (.int (.ofNat (nat_lit 2305878193585782784)) (nat_lit 3004)), (.int (.ofNat (nat_lit 2305878331024736256)) (nat_lit 3005)), (.int (.ofNat (nat_lit 2314850208468434944)) (nat_lit 3006)), (.int (.ofNat (nat_lit 2314850345907388416)) (nat_lit 3007)), (.int (.ofNat (nat_lit 2314885392840523776)) (nat_lit 3008)), (.int (.ofNat (nat_lit 2314885530279477248)) (nat_lit 3009))]) (nat_lit 0)) (Array.mk []))
noncomputable def r7_1071 (P : Params) : Obj := (.mk (.type "tuple") .none (.seq (Array.mk [(.int (.ofNat (nat_lit 0)) (nat_lit 3010)), (.int (.ofNat (nat_lit 8589934592)) (nat_lit 3011)), (.int (.ofNat (nat_lit 2199023255552)) (nat_lit 3012)), (.int (.ofNat (nat_lit 2207613190144)) (nat_lit 3013)), (.int (.ofNat (nat_lit 562949953421312)) (nat_lit 3014)), (.int (.ofNat (nat_lit 562958543355904)) (nat_lit 3015)), (.int (.ofNat (nat_lit 565148976676864)) (nat_lit 3016)), (.int (.ofNat (nat_lit 565157566611456)) (nat_lit 3017)), (.int (.ofNat (nat_lit 144115188075855872)) (nat_lit 3018)), (.int (.ofNat (nat_lit 144115196665790464)) (nat_lit 3019)), (.int (.ofNat (nat_lit 144117387099111424)) (nat_lit 3020)), (.int (.ofNat (nat_lit 144117395689046016)) (nat_lit 3021)), (.int (.ofNat (nat_lit 144678138029277184)) (nat_lit 3022)), (.int (.ofNat (nat_lit 144678146619211776)) (nat_lit 3023)), (.int (.ofNat (nat_lit 144680337052532736)) (nat_lit 3024)), (.int (.ofNat (nat_lit 144680345642467328)) (nat_lit 3025))]) (nat_lit 0)) (Array.mk []))
noncomputable def r7_1072 (P : Params) : Obj := (.mk (.type "tuple") .none (.seq (Array.mk [(.int (.ofNat (nat_lit 0)) (nat_lit 3026)), (.int (.ofNat (nat_lit 32)) (nat_lit 3027)), (.int (.ofNat (nat_lit 8192)) (nat_lit 3028)), (.int (.ofNat (nat_lit 8224)) (nat_lit 3029)), (.int (.ofNat (nat_lit 2097152)) (nat_lit 3030)), (.int (.ofNat (nat_lit 2097184)) (nat_lit 3031)), (.int (.ofNat (nat_lit 2105344)) (nat_lit 3032)), (.int (.ofNat (nat_lit 2105376)) (nat_lit 3033)), (.int (.ofNat (nat_lit 536870912)) (nat_lit 3034)), (.int (.ofNat (nat_lit 536870944)) (nat_lit 3035)), (.int (.ofNat (nat_lit 536879104)) (nat_lit 3036)), (.int (.ofNat (nat_lit 536879136)) (nat_lit 3037)), (.int (.ofNat (nat_lit 538968064)) (nat_lit 3038)), (.int (.ofNat (nat_lit 538968096)) (nat_lit 3039)), (.int (.ofNat (nat_lit 538976256)) (nat_lit 3040)), (.int (.ofNat (nat_lit 538976288)) (nat_lit 3041))]) (nat_lit 0)) (Array.mk []))
noncomputable def r7_1073 (P : Params) : Obj := (.mk (.type "tuple") .none (.seq (Array.mk [(.int (.ofNat (nat_lit 0)) (nat_lit 3042)), (.int (.ofNat (nat_lit 2)) (nat_lit 3043)), (.int (.ofNat (nat_lit 512)) (nat_lit 3044)), (.int (.ofNat (nat_lit 514)) (nat_lit 3045)), (.int (.ofNat (nat_lit 131072)) (nat_lit 3046)), (.int (.ofNat (nat_lit 131074)) (nat_lit 3047)), (.int (.ofNat (nat_lit 131584)) (nat_lit 3048)), (.int (.ofNat (nat_lit 131586)) (nat_lit 3049)), (.int (.ofNat (nat_lit 33554432)) (nat_lit 3050)), (.int (.ofNat (nat_lit 33554434)) (nat_lit 3051)), (.int (.ofNat (nat_lit 33554944)) (nat_lit 3052)), (.int (.ofNat (nat_lit 33554946)) (nat_lit 3053)), (.int (.ofNat (nat_lit 33685504)) (nat_lit 3054)), (.int (.ofNat (nat_lit 33685506)) (nat_lit 3055)), (.int (.ofNat (nat_lit 33686016)) (nat_lit 3056)), (.int (.ofNat (nat_lit 33686018)) (nat_lit 3057))]) (nat_lit 0)) (Array.mk []))
noncomputable def r7_1074 (P : Params) : Obj := (.mk (.type "tuple") .none (.seq (Array.mk [(.int (.ofNat (nat_lit 0)) (nat_lit 3058)), (.int (.ofNat (nat_lit 549755813888)) (nat_lit 3059)), (.int (.ofNat (nat_lit 140737488355328)) (nat_lit 3060)), (.int (.ofNat (nat_lit 141287244169216)) (nat_lit 3061)), (.int (.ofNat (nat_lit 36028797018963968)) (nat_lit 3062)), (.int (.ofNat (nat_lit 36029346774777856)) (nat_lit 3063)), (.int (.ofNat (nat_lit 36169534507319296)) (nat_lit 3064)), (.int (.ofNat (nat_lit 36170084263133184)) (nat_lit 3065)), (.int (.ofNat (nat_lit 9223372036854775808)) (nat_lit 3066)), (.int (.ofNat (nat_lit 9223372586610589696)) (nat_lit 3067)), (.int (.ofNat (nat_lit 9223512774343131136)) (nat_lit 3068)), (.int (.ofNat (nat_lit 9223513324098945024)) (nat_lit 3069)), (.int (.ofNat (nat_lit 9259400833873739776)) (nat_lit 3070)), (.int (.ofNat (nat_lit 9259401383629553664)) (nat_lit 3071)), (.int (.ofNat (nat_lit 9259541571362095104)) (nat_lit 3072)), (.int (.ofNat (nat_lit 9259542121117908992)) (nat_lit 3073))]) (nat_lit 0)) (Array.mk []))
noncomputable def r7_1075 (P : Params) : Obj := (.mk (.type "tuple") .none (.seq (Array.mk [(.int (.ofNat (nat_lit 0)) (nat_lit 3074)), (.int (.ofNat (nat_lit 34359738368)) (nat_lit 3075)), (.int (.ofNat (nat_lit 8796093022208)) (nat_lit 3076)), (.int (.ofNat (nat_lit 8830452760576)) (nat_lit 3077)), (.int (.ofNat (nat_lit 2251799813685248)) (nat_lit 3078)), (.int (.ofNat (nat_lit 2251834173423616)) (nat_lit 3079)), (.int (.ofNat (nat_lit 2260595906707456)) (nat_lit 3080)), (.int (.ofNat (nat_lit 2260630266445824)) (nat_lit 3081)), (.int (.ofNat (nat_lit 576460752303423488)) (nat_lit 3082)), (.int (.ofNat (nat_lit 576460786663161856)) (nat_lit 3083)), (.int (.ofNat (nat_lit 576469548396445696)) (nat_lit 3084)), (.int (.ofNat (nat_lit 576469582756184064)) (nat_lit 3085)), (.int (.ofNat (nat_lit 578712552117108736)) (nat_lit 3086)), (.int (.ofNat (nat_lit 578712586476847104)) (nat_lit 3087)), (.int (.ofNat (nat_lit 578721348210130944)) (nat_lit 3088)), (.int (.ofNat (nat_lit 578721382569869312)) (nat_lit 3089))]) (nat_lit 0)) (Array.mk []))
noncomputable def r7_1076 (P : Params) : Obj := (.mk (.type "tuple") .none (.seq (Array.mk [(.int (.ofNat (nat_lit 0)) (nat_lit 3090)), (.int (.ofNat (nat_lit 128)) (nat_lit 3091)), (.int (.ofNat (nat_lit 32768)) (nat_lit 3092)), (.int (.ofNat (nat_lit 32896)) (nat_lit 3093)), (.int (.ofNat (nat_lit 8388608)) (nat_lit 3094)), (.int (.ofNat (nat_lit 8388736)) (nat_lit 3095)), (.int (.ofNat (nat_lit 8421376)) (nat_lit 3096)), (.int (.ofNat (nat_lit 8421504)) (nat_lit 3097)), (.int (.ofNat (nat_lit 2147483648)) (nat_lit 3098)), (.int (.ofNat (nat_lit 2147483776)) (nat_lit 3099)), (.int (.ofNat (nat_lit 2147516416)) (nat_lit 3100)), (.int (.ofNat (nat_lit 2147516544)) (nat_lit 3101)), (.int (.ofNat (nat_lit 2155872256)) (nat_lit 3102)), (.int (.ofNat (nat_lit 2155872384)) (nat_lit 3103)), (.int (.ofNat (nat_lit 2155905024)) (nat_lit 3104)), (.int (.ofNat (nat_lit 2155905152)) (nat_lit 3105))]) (nat_lit 0)) (Array.mk []))
noncomputable def r7_1077 (P : Params) : Obj := (.mk (.type "tuple") .none (.seq (Array.mk [(.int (.ofNat (nat_lit 0)) (nat_lit 3106)), (.int (.ofNat (nat_lit 8)) (nat_lit 3107)), (.int (.ofNat (nat_lit 2048)) (nat_lit 3108)), (.int (.ofNat (nat_lit 2056)) (nat_lit 3109)), (.int (.ofNat (nat_lit 524288)) (nat_lit 3110)), (.int (.ofNat (nat_lit 524296)) (nat_lit 3111)), (.int (.ofNat (nat_lit 526336)) (nat_lit 3112)), (.int (.ofNat (nat_lit 526344)) (nat_lit 3113)), (.int (.ofNat (nat_lit 134217728)) (nat_lit 3114)), (.int (.ofNat (nat_lit 134217736)) (nat_lit 3115)), (.int (.ofNat (nat_lit 134219776)) (nat_lit 3116)), (.int (.ofNat (nat_lit 134219784)) (nat_lit 3117)), (.int (.ofNat (nat_lit 134742016)) (nat_lit 3118)), (.int (.ofNat (nat_lit 134742024)) (nat_lit 3119)), (.int (.ofNat (nat_lit 134744064)) (nat_lit 3120)), (.int (.ofNat (nat_lit 134744072)) (nat_lit 3121))]) (nat_lit 0)) (Array.mk []))
noncomputable def r7_1078 (P : Params) : Obj := (.mk (.type "tuple") .none (.seq (Array.mk [(.int (.ofNat (nat_lit 0)) (nat_lit 3122)), (.int (.ofNat (nat_lit 68719476736)) (nat_lit 3123)), (.int (.ofNat (nat_lit 17592186044416)) (nat_lit 3124)), (.int (.ofNat (nat_lit 17660905521152)) (nat_lit 3125)), (.int (.ofNat (nat_lit 4503599627370496)) (nat_lit 3126)), (.int (.ofNat (nat_lit 4503668346847232)) (nat_lit 3127)), (.int (.ofNat (nat_lit 4521191813414912)) (nat_lit 3128)), (.int (.ofNat (nat_lit 4521260532891648)) (nat_lit 3129)), (.int (.ofNat (nat_lit 1152921504606846976)) (nat_lit 3130)), (.int (.ofNat (nat_lit 1152921573326323712)) (nat_lit 3131)), (.int (.ofNat (nat_lit 1152939096792891392)) (nat_lit 3132)), (.int (.ofNat (nat_lit 1152939165512368128)) (nat_lit 3133)), (.int (.ofNat (nat_lit 1157425104234217472)) (nat_lit 3134)), (.int (.ofNat (nat_lit 1157425172953694208)) (nat_lit 3135)), (.int (.ofNat (nat_lit 1157442696420261888)) (nat_lit 3136)), (.int (.ofNat (nat_lit 1157442765139738624)) (nat_lit 3137))]) (nat_lit 0)) (Array.mk []))
noncomputable def r7_1079 (P : Params) : Obj := (.mk (.type "tuple") .none (.seq (Array.mk [(.int (.ofNat (nat_lit 0)) (nat_lit 3138)), (.int (.ofNat (nat_lit 4294967296)) (nat_lit 3139)), (.int (.ofNat (nat_lit 1099511627776)) (nat_lit 3140)), (.int (.ofNat (nat_lit 1103806595072)) (nat_lit 3141)), (.int (.ofNat (nat_lit 281474976710656)) (nat_lit 3142)), (.int (.ofNat (nat_lit 281479271677952)) (nat_lit 3143)), (.int (.ofNat (nat_lit 282574488338432)) (nat_lit 3144)), (.int (.ofNat (nat_lit 282578783305728)) (nat_lit 3145)), (.int (.ofNat (nat_lit 72057594037927936)) (nat_lit 3146)), (.int (.ofNat (nat_lit 72057598332895232)) (nat_lit 3147)), (.int (.ofNat (nat_lit 72058693549555712)) (nat_lit 3148)), (.int (.ofNat (nat_lit 72058697844523008)) (nat_lit 3149)), (.int (.ofNat (nat_lit 72339069014638592)) (nat_lit 3150)), (.int (.ofNat (nat_lit 72339073309605888)) (nat_lit 3151)), (.int (.ofNat (nat_lit 72340168526266368)) (nat_lit 3152)), (.int (.ofNat (nat_lit 72340172821233664)) (nat_lit 3153))]) (nat_lit 0)) (Array.mk []))
noncomputable def r7_1080 (P : Params) : Obj := (.mk (.type "tuple") .none (.seq (Array.mk [(.int (.ofNat (nat_lit 0)) (nat_lit 3154)), (.int (.ofNat (nat_lit 16)) (nat_lit 3155)), (.int (.ofNat (nat_lit 4096)) (nat_lit 3156)), (.int (.ofNat (nat_lit 4112)) (nat_lit 3157)), (.int (.ofNat (nat_lit 1048576)) (nat_lit 3158)), (.int (.ofNat (nat_lit 1048592)) (nat_lit 3159)), (.int (.ofNat (nat_lit 1052672)) (nat_lit 3160)), (.int (.ofNat (nat_lit 1052688)) (nat_lit 3161)), (.int (.ofNat (nat_lit 268435456)) (nat_lit 3162)), (.int (.ofNat (nat_lit 268435472)) (nat_lit 3163)), (.int (.ofNat (nat_lit 268439552)) (nat_lit 3164)), (.int (.ofNat (nat_lit 268439568)) (nat_lit 3165)), (.int (.ofNat (nat_lit 269484032)) (nat_lit 3166)), (.int (.ofNat (nat_lit 269484048)) (nat_lit 3167)), (.int (.ofNat (nat_lit 269488128)) (nat_lit 3168)), (.int (.ofNat (nat_lit 269488144)) (nat_lit 3169))]) (nat_lit 0)) (Array.mk []))
noncomputable def r7_1081 (P : Params) : Obj := (.mk (.type "tuple") .none (.seq (Array.mk [(.int (.ofNat (nat_lit 0)) (nat_lit 3170)), (.int (.ofNat (nat_lit 1)) (nat_lit 3171)), (.int (.ofNat (nat_lit 256)) (nat_lit 3172)), (.int (.ofNat (nat_lit 257)) (nat_lit 3173)), (.int (.ofNat (nat_lit 65536)) (nat_lit 3174)), (.int (.ofNat (nat_lit 65537)) (nat_lit 3175)), (.int (.ofNat (nat_lit 65792)) (nat_lit 3176)), (.int (.ofNat (nat_lit 65793)) (nat_lit 3177)), (.int (.ofNat (nat_lit 16777216)) (nat_lit 3178)), (.int (.ofNat (nat_lit 16777217)) (nat_lit 3179)), (.int (.ofNat (nat_lit 16777472)) (nat_lit 3180)), (.int (.ofNat (nat_lit 16777473)) (nat_lit 3181)), (.int (.ofNat (nat_lit 16842752)) (nat_lit 3182)), (.int (.ofNat (nat_lit 16842753)) (nat_lit 3183)), (.int (.ofNat (nat_lit 16843008)) (nat_lit 3184)), (.int (.ofNat (nat_lit 16843009)) (nat_lit 3185))]) (nat_lit 0)) (Array.mk []))
noncomputable def r7_1082 (P : Params) : Obj := (.mk (.type "tuple") .none (.seq (Array.mk [(.int (.ofNat (nat_lit 0)) (nat_lit 3186)), (.int (.ofNat (nat_lit 274877906944)) (nat_lit 3187)), (.int (.ofNat (nat_lit 70368744177664)) (nat_lit 3188)), (.int (.ofNat (nat_lit 70643622084608)) (nat_lit 3189)), (.int (.ofNat (nat_lit 18014398509481984)) (nat_lit 3190)), (.int (.ofNat (nat_lit 18014673387388928)) (nat_lit 3191)), (.int (.ofNat (nat_lit 18084767253659648)) (nat_lit 3192)), (.int (.ofNat (nat_lit 18085042131566592)) (nat_lit 3193)), (.int (.ofNat (nat_lit 4611686018427387904)) (nat_lit 3194)), (.int (.ofNat (nat_lit 4611686293305294848)) (nat_lit 3195)), (.int (.ofNat (nat_lit 4611756387171565568)) (nat_lit 3196)), (.int (.ofNat (nat_lit 4611756662049472512)) (nat_lit 3197)), (.int (.ofNat (nat_lit 4629700416936869888)) (nat_lit 3198)), (.int (.ofNat (nat_lit 4629700691814776832)) (nat_lit 3199)), (.int (.ofNat (nat_lit 4629770785681047552)) (nat_lit 3200)), (.int (.ofNat (nat_lit 4629771060558954496)) (nat_lit 3201))]) (nat_lit 0)) (Array.mk []))
noncomputable def r7_1083 (P : Params) : Obj := (.mk (.type "tuple") .none (.seq (Array.mk [(.int (.ofNat (nat_lit 0)) (nat_lit 3202)), (.int (.ofNat (nat_lit 17179869184)) (nat_lit 3203)), (.int (.ofNat (nat_lit 4398046511104)) (nat_lit 3204)), (.int (.ofNat (nat_lit 4415226380288)) (nat_lit 3205)), (.int (.ofNat (nat_lit 1125899906842624)) (nat_lit 3206)), (.int (.ofNat (nat_lit 1125917086711808)) (nat_lit 3207)), (.int (.ofNat (nat_lit 1130297953353728)) (nat_lit 3208)), (.int (.ofNat (nat_lit 1130315133222912)) (nat_lit 3209)), (.int (.ofNat (nat_lit 288230376151711744)) (nat_lit 3210)), (.int (.ofNat (nat_lit 288230393331580928)) (nat_lit 3211)), (.int (.ofNat (nat_lit 288234774198222848)) (nat_lit 3212)), (.int (.ofNat (nat_lit 288234791378092032)) (nat_lit 3213)), (.int (.ofNat (nat_lit 289356276058554368)) (nat_lit 3214)), (.int (.ofNat (nat_lit 289356293238423552)) (nat_lit 3215)), (.int (.ofNat (nat_lit 289360674105065472)) (nat_lit 3216)), (.int (.ofNat (nat_lit 289360691284934656)) (nat_lit 3217))]) (nat_lit 0)) (Array.mk []))
noncomputable def r7_1084 (P : Params) : Obj := (.mk (.type "tuple") .none (.seq (Array.mk [(.int (.ofNat (nat_lit 0)) (nat_lit 3218)), (.int (.ofNat (nat_lit 64)) (nat_lit 3219)), (.int (.ofNat (nat_lit 16384)) (nat_lit 3220)), (.int (.ofNat (nat_lit 16448)) (nat_lit 3221)), (.int (.ofNat (nat_lit 4194304)) (nat_lit 3222)), (.int (.ofNat (nat_lit 4194368)) (nat_lit 3223)), (.int (.ofNat (nat_lit 4210688)) (nat_lit 3224)), (.int (.ofNat (nat_lit 4210752)) (nat_lit 3225)), (.int (.ofNat (nat_lit 1073741824)) (nat_lit 3226)), (.int (.ofNat (nat_lit 1073741888)) (nat_lit 3227)), (.int (.ofNat (nat_lit 1073758208)) (nat_lit 3228)), (.int (.ofNat (nat_lit 1073758272)) (nat_lit 3229)), (.int (.ofNat (nat_lit 1077936128)) (nat_lit 3230)), (.int (.ofNat (nat_lit 1077936192)) (nat_lit 3231)), (.int (.ofNat (nat_lit 1077952512)) (nat_lit 3232)), (.int (.ofNat (nat_lit 1077952576)) (nat_lit 3233))]) (nat_lit 0)) (Array.mk []))
noncomputable def r7_1085 (P : Params) : Obj := (.mk (.type "tuple") .none (.seq (Array.mk [(.int (.ofNat (nat_lit 0)) (nat_lit 3234)), (.int (.ofNat (nat_lit 4)) (nat_lit 3235)), (.int (.ofNat (nat_lit 1024)) (nat_lit 3236)), (.int (.ofNat (nat_lit 1028)) (nat_lit 3237)), (.int (.ofNat (nat_lit 262144)) (nat_lit 3238)), (.int (.ofNat (nat_lit 262148)) (nat_lit 3239)), (.int (.ofNat (nat_lit 263168)) (nat_lit 3240)), (.int (.ofNat (nat_lit 263172)) (nat_lit 3241)), (.int (.ofNat (nat_lit 67108864)) (nat_lit 3242)), (.int (.ofNat (nat_lit 67108868)) (nat_lit 3243)), (.int (.ofNat (nat_lit 67109888)) (nat_lit 3244)), (.int (.ofNat (nat_lit 67109892)) (nat_lit 3245)), (.int (.ofNat (nat_lit 67371008)) (nat_lit 3246)), (.int (.ofNat (nat_lit 67371012)) (nat_lit 3247)), (.int (.ofNat (nat_lit 67372032)) (nat_lit 3248)), (.int (.ofNat (nat_lit 67372036)) (nat_lit 3249))]) (nat_lit 0)) (Array.mk []))
noncomputable def r7_1086 (P : Params) : Obj := (.mk (.type "tuple") .none (.seq (Array.mk [(.ref (nat_lit 1070)), (.ref (nat_lit 1071)), (.ref (nat_lit 1072)), (.ref (nat_lit 1073)), (.ref (nat_lit 1074)), (.ref (nat_lit 1075)), (.ref (nat_lit 1076)), (.ref (nat_lit 1077)), (.ref (nat_lit 1078)), (.ref (nat_lit 1079)), (.ref (nat_lit 1080)), (.ref (nat_lit 1081)), (.ref (nat_lit 1082)), (.ref (nat_lit 1083)), (.ref (nat_lit 1084)), (.ref (nat_lit 1085))]) (nat_lit 0)) (Array.mk []))
noncomputable def r7_1087 (P : Params) : Obj := (.mk (.type "tuple") .none (.seq (Array.mk []) (nat_lit 0)) (Array.mk []))
noncomputable def r7_1088 (P : Params) : Obj := (.mk .none .none (.fields (Array.mk [])) (Array.mk []))
noncomputable def r7_1089 (P : Params) : Obj := (.mk (.type "tuple") .none (.seq (Array.mk [(.str n79 (nat_lit 3254)), (.str n80 (nat_lit 3255)), (.str n81 (nat_lit 3256)), (.str n82 (nat_lit 3257))]) (nat_lit 0)) (Array.mk []))
noncomputable def r7_1090 (P : Params) : Obj := (.mk (.type "tuple") .none (.seq (Array.mk []) (nat_lit 0)) (Array.mk []))
noncomputable def r7_1091 (P : Params) : Obj := (.mk .none .none (.func (.mk n78 n78 (fA (cel (nat_lit 35))) (.stmts (fB (cel (nat_lit 35)))) (fS (cel (nat_lit 35))) (nat_lit 0) [] .none .none .none .none .none .none .none (nat_lit 0))) (Array.mk []))
noncomputable def r7_1092 (P : Params) : Obj := (.mk (.type "code") .none (.fields (Array.mk [(.str n78 (nat_lit 3251)), (.str n78 (nat_lit 3252)), (.str n37 (nat_lit 3253)), (.int (.ofNat (nat_lit 285)) (nat_lit 0)), (.int (.ofNat (nat_lit 2)) (nat_lit 0)), (.int (.ofNat (nat_lit 0)) (nat_lit 0)), (.int (.ofNat (nat_lit 0)) (nat_lit 0)), (.int (.ofNat (nat_lit 3)) (nat_lit 0)), (.ref (nat_lit 1087)), (.bool true), (.int (.ofNat (nat_lit 181)) (nat_lit 0)), (.ref (nat_lit 1088)), .none, (.ref (nat_lit 1089)), (.ref (nat_lit 1090)), (.ref (nat_lit 1091)), (.int (.ofNat (nat_lit 3258)) (nat_lit 0)), (.int (.ofNat (nat_lit 285)) (nat_lit 0)), (.str n37 (nat_lit 3259))])) (Array.mk []))
noncomputable def r7_1093 (P : Params) : Obj := (.mk (.type "function") .none (.func (.mk n78 n78 (fA (cel (nat_lit 35))) (.stmts (fB (cel (nat_lit 35)))) (fS (cel (nat_lit 35))) (nat_lit 3) [] .none .none .none (.str n67 (nat_lit 1572)) .none (.ref (nat_lit 1092)) .none (nat_lit 0))) (Array.mk []))
noncomputable def r7T (P : Params) : BT := (BT.ins (BT.ins (BT.ins (BT.ins (BT.ins (BT.ins (BT.ins (BT.ins (BT.ins (BT.ins (BT.ins (BT.ins (BT.ins (BT.ins (BT.ins (BT.ins (BT.ins (BT.ins (BT.ins (BT.ins (BT.ins (BT.ins (BT.ins (BT.ins (BT.ins (BT.ins (r6T P) (nat_lit 3) (r7_3 P)) (nat_lit 12) (r7_12 P)) (nat_lit 1070) (r7_1070 P)) (nat_lit 1071) (r7_1071 P)) (nat_lit 1072) (r7_1072 P)) (nat_lit 1073) (r7_1073 P)) (nat_lit 1074) (r7_1074 P)) (nat_lit 1075) (r7_1075 P)) (nat_lit 1076) (r7_1076 P)) (nat_lit 1077) (r7_1077 P)) (nat_lit 1078) (r7_1078 P)) (nat_lit 1079) (r7_1079 P)) (nat_lit 1080) (r7_1080 P)) (nat_lit 1081) (r7_1081 P)) (nat_lit 1082) (r7_1082 P)) (nat_lit 1083) (r7_1083 P)) (nat_lit 1084) (r7_1084 P)) (nat_lit 1085) (r7_1085 P)) (nat_lit 1086) (r7_1086 P)) (nat_lit 1087) (r7_1087 P)) (nat_lit 1088) (r7_1088 P)) (nat_lit 1089) (r7_1089 P)) (nat_lit 1090) (r7_1090 P)) (nat_lit 1091) (r7_1091 P)) (nat_lit 1092) (r7_1092 P)) (nat_lit 1093) (r7_1093 P))
noncomputable def r7S (w : World) (os : OsState) : SharedT := ⟨r7T w.params, nat_lit 1094, {}, Array.mk [.finished, .finished], {}, nat_lit 3261, os⟩
noncomputable def rE8 (P : Params) : Array DictEntry := Array.mk [(.mk (KH P n41) (.str n41 (nat_lit 165)) (.str n83 (nat_lit 3290))), (.mk (KH P n43) (.str n43 (nat_lit 166)) .none), (.mk (KH P n44) (.str n44 (nat_lit 167)) .none), (.mk (KH P n45) (.str n45 (nat_lit 168)) (.builtin "__main__.__loader__#opaque")), (.mk (KH P n46) (.str n46 (nat_lit 169)) .none), (.mk (KH P n47) (.str n47 (nat_lit 170)) (.ref (nat_lit 6))), (.mk (KH P n48) (.str n48 (nat_lit 171)) (.ref (nat_lit 4))), (.mk (KH P n49) (.str n49 (nat_lit 173)) (.str n37 (nat_lit 172))), (.mk (KH P n50) (.str n50 (nat_lit 174)) .none), (.mk (KH P n51) (.str n51 (nat_lit 193)) (.ref (nat_lit 21))), (.mk (KH P n52) (.str n52 (nat_lit 204)) (.ref (nat_lit 28))), (.mk (KH P n53) (.str n53 (nat_lit 224)) (.ref (nat_lit 38))), (.mk (KH P n54) (.str n54 (nat_lit 231)) (.ref (nat_lit 48))), (.mk (KH P n55) (.str n55 (nat_lit 240)) (.ref (nat_lit 55))), (.mk (KH P n6) (.str n6 (nat_lit 248)) (.ref (nat_lit 62))), (.mk (KH P n56) (.str n56 (nat_lit 256)) (.ref (nat_lit 70))), (.mk (KH P n57) (.str n57 (nat_lit 259)) (.bool true)), (.mk (KH P n2) (.str n2 (nat_lit 260)) (.type "str")), (.mk (KH P n58) (.str n58 (nat_lit 261)) (.type "bytes")), (.mk (KH P n59) (.str n59 (nat_lit 262)) (.type "bytes")), (.mk (KH P n60) (.str n60 (nat_lit 269)) (.ref (nat_lit 77))), (.mk (KH P n61) (.str n61 (nat_lit 270)) (.ref (nat_lit 78))), (.mk (KH P n62) (.str n62 (nat_lit 271)) (.type "range")), (.mk (KH P n63) (.str n63 (nat_lit 272)) (.type "map")), (.mk (KH P n64) (.str n64 (nat_lit 279)) (.ref (nat_lit 85))), (.mk (KH P n32) (.str n32 (nat_lit 283)) (.str n34 (nat_lit 282))), (.mk (KH P n65) (.str n65 (nat_lit 581)) (.ref (nat_lit 288))), (.mk (KH P n31) (.str n31 (nat_lit 598)) (.ref (nat_lit 302))), (.mk (KH P n30) (.str n30 (nat_lit 1087)) (.ref (nat_lit 306))), (.mk (KH P n66) (.str n66 (nat_lit 1571)) (.ref (nat_lit 651))), (.mk (KH P n68) (.str n68 (nat_lit 1575)) (.int (.ofNat (nat_lit 16777215)) (nat_lit 1574))), (.mk (KH P n69) (.str n69 (nat_lit 1577)) (.int (.ofNat (nat_lit 18446744073709551615)) (nat_lit 1576))), (.mk (KH P n70) (.str n70 (nat_lit 1579)) (.int (.ofNat (nat_lit 18229723555245850623)) (nat_lit 1578))), (.mk (KH P n71) (.str n71 (nat_lit 1836)) (.ref (nat_lit 1008))), (.mk (KH P n72) (.str n72 (nat_lit 2093)) (.ref (nat_lit 1025))), (.mk (KH P n73) (.str n73 (nat_lit 2350)) (.ref (nat_lit 1042))), (.mk (KH P n74) (.str n74 (nat_lit 2351)) (.ref (nat_lit 1051))), (.mk (KH P n75) (.str n75 (nat_lit 2480)) (.ref (nat_lit 1060))), (.mk (KH P n76) (.str n76 (nat_lit 2993)) (.ref (nat_lit 1069))), (.mk (KH P n77) (.str n77 (nat_lit 3250)) (.ref (nat_lit 1086))), (.mk (KH P n78) (.str n78 (nat_lit 3260)) (.ref (nat_lit 1093))), (.mk (KH P n84) (.str n84 (nat_lit 3289)) (.ref (nat_lit 1101))), (.mk (KH P n85) (.str n85 (nat_lit 3293)) (.bytes (Array.mk [0]) (nat_lit 3292))), (.mk (KH P n86) (.str n86 (nat_lit 3300)) (.ref (nat_lit 1108))), (.mk (KH P n87) (.str n87 (nat_lit 3311)) (.ref (nat_lit 1115))), (.mk (KH P n88) (.str n88 (nat_lit 3323)) (.ref (nat_lit 1122))), (.mk (KH P n89) (.str n89 (nat_lit 3335)) (.ref (nat_lit 1129)))]
noncomputable def r8_3 (P : Params) : Obj := ⟨(.type "dict"), .none, .dict (rE8 P) (nat_lit 47), (Array.mk [])⟩
noncomputable def r8_12 (P : Params) : Obj := (.mk .none .none (.fields (Array.mk [(.int (.ofNat (nat_lit 1)) (nat_lit 0)), (.int (.ofNat (nat_lit 0)) (nat_lit 0)), (.ref (nat_lit 20)), (.int (.ofNat (nat_lit 5)) (nat_lit 0)), (.int (.ofNat (nat_lit 0)) (nat_lit 0)), (.ref (nat_lit 27)), (.int (.ofNat (nat_lit 9)) (nat_lit 0)), (.int (.ofNat (nat_lit 0)) (nat_lit 0)), (.ref (nat_lit 34)), (.int (.ofNat (nat_lit 11)) (nat_lit 0)), (.int (.ofNat (nat_lit 0)) (nat_lit 0)), (.ref (nat_lit 47)), (.int (.ofNat (nat_lit 13)) (nat_lit 0)), (.int (.ofNat (nat_lit 0)) (nat_lit 0)), (.ref (nat_lit 54)), (.int (.ofNat (nat_lit 15)) (nat_lit 0)), (.int (.ofNat (nat_lit 0)) (nat_lit 0)), (.ref (nat_lit 61)), (.int (.ofNat (nat_lit 17)) (nat_lit 0)), (.int (.ofNat (nat_lit 0)) (nat_lit 0)), (.ref (nat_lit 69)), (.int (.ofNat (nat_lit 24)) (nat_lit 0)), (.int (.ofNat (nat_lit 0)) (nat_lit 0)), (.ref (nat_lit 76)), (.int (.ofNat (nat_lit 30)) (nat_lit 0)), (.int (.ofNat (nat_lit 0)) (nat_lit 0)), (.ref (nat_lit 84)), (.int (.ofNat (nat_lit 34)) (nat_lit 0)), (.int (.ofNat (nat_lit 0)) (nat_lit 0)), (.ref (nat_lit 91)), (.int (.ofNat (nat_lit 270)) (nat_lit 0)), (.int (.ofNat (nat_lit 0)) (nat_lit 0)), (.ref (nat_lit 298)), (.int (.ofNat (nat_lit 285)) (nat_lit 0)), (.int (.ofNat (nat_lit 0)) (nat_lit 0)), (.ref (nat_lit 1092)), (.int (.ofNat (nat_lit 291)) (nat_lit 0)), (.int (.ofNat (nat_lit 0)) (nat_lit 0)), (.ref (nat_lit 1100)), (.int (.ofNat (nat_lit 334)) (nat_lit 0)), (.int (.ofNat (nat_lit 0)) (nat_lit 0)), (.ref (nat_lit 1107)), (.int (.ofNat (nat_lit 336)) (nat_lit 0)), (.int (.ofNat (nat_lit 0)) (nat_lit 0)), (.ref (nat_lit 1114)), (.int (.ofNat (nat_lit 347)) (nat_lit 0)), (.int (.ofNat (nat_lit 0)) (nat_lit 0)), (.ref (nat_lit 1121)), (.int (.ofNat (nat_lit 357)) (nat_lit 0)), (.int (.ofNat (nat_lit 0)) (nat_lit 0)), (.ref (nat_lit 1128))])) (Array.mk []))
noncomputable def r8_1094 (P : Params) : Obj := (.mk (.type "tuple") .none (.seq (Array.mk [(.int (.ofNat (nat_lit 0)) (nat_lit 3261)), (.int (.ofNat (nat_lit 1)) (nat_lit 3262))]) (nat_lit 0)) (Array.mk []))
noncomputable def r8_1095 (P : Params) : Obj := (.mk (.type "tuple") .none (.seq (Array.mk []) (nat_lit 0)) (Array.mk []))
noncomputable def r8_1096 (P : Params) : Obj := (.mk .none .none (.fields (Array.mk [])) (Array.mk []))
noncomputable def r8_1097 (P : Params) : Obj := (.mk (.type "tuple") .none (.seq (Array.mk [(.str n90 (nat_lit 3266)), (.str n91 (nat_lit 3267)), (.str n92 (nat_lit 3268)), (.str n93 (nat_lit 3269)), (.str n94 (nat_lit 3270)), (.str n95 (nat_lit 3271)), (.str n96 (nat_lit 3272)), (.str n97 (nat_lit 3273)), (.str n98 (nat_lit 3274)), (.str n99 (nat_lit 3275)), (.str n100 (nat_lit 3276)), (.str n101 (nat_lit 3277)), (.str n102 (nat_lit 3278)), (.str n103 (nat_lit 3279)), (.str n104 (nat_lit 3280)), (.str n105 (nat_lit 3281)), (.str n106 (nat_lit 3282)), (.str n107 (nat_lit 3283)), (.str n108 (nat_lit 3284)), (.str n109 (nat_lit 3285)), (.str n110 (nat_lit 3286))]) (nat_lit 0)) (Array.mk []))
noncomputable def r8_1098 (P : Params) : Obj := (.mk (.type "tuple") .none (.seq (Array.mk []) (nat_lit 0)) (Array.mk []))
noncomputable def r8_1099 (P : Params) : Obj := (.mk .none .none (.func (.mk n84 n84 (fA (cel (nat_lit 36))) (.stmts (fB (cel (nat_lit 36)))) (fS (cel (nat_lit 36))) (nat_lit 0) [] .none .none .none .none .none .none .none (nat_lit 0))) (Array.mk []))
noncomputable def r8_1100 (P : Params) : Obj := (.mk (.type "code") .none (.fields (Array.mk [(.str n84 (nat_lit 3263)), (.str n84 (nat_lit 3264)), (.str n37 (nat_lit 3265)), (.int (.ofNat (nat_lit 291)) (nat_lit 0)), (.int (.ofNat (nat_lit 4)) (nat_lit 0)), (.int (.ofNat (nat_lit 0)) (nat_lit 0)), (.int (.ofNat (nat_lit 0)) (nat_lit 0)), (.int (.ofNat (nat_lit 3)) (nat_lit 0)), (.ref (nat_lit 1095)), (.bool true), (.int (.ofNat (nat_lit 181)) (nat_lit 0)), (.ref (nat_lit 1096)), .none, (.ref (nat_lit 1097)), (.ref (nat_lit 1098)), (.ref (nat_lit 1099)), (.int (.ofNat (nat_lit 3287)) (nat_lit 0)), (.int (.ofNat (nat_lit 291)) (nat_lit 0)), (.str n37 (nat_lit 3288))])) (Array.mk []))
noncomputable def r8_1101 (P : Params) : Obj := (.mk (.type "function") .none (.func (.mk n84 n84 (fA (cel (nat_lit 36))) (.stmts (fB (cel (nat_lit 36)))) (fS (cel (nat_lit 36))) (nat_lit 3) [] (.ref (nat_lit 1094)) .none .none (.str n67 (nat_lit 1572)) .none (.ref (nat_lit 1100)) .none (nat_lit 0))) (Array.mk []))
noncomputable def r8_1102 (P : Params) : Obj := (.mk (.type "tuple") .none (.seq (Array.mk []) (nat_lit 0)) (Array.mk []))
noncomputable def r8_1103 (P : Params) : Obj := (.mk .none .none (.fields (Array.mk [])) (Array.mk []))
noncomputable def r8_1104 (P : Params) : Obj := (.mk (.type "tuple") .none (.seq (Array.mk [(.str n111 (nat_lit 3297))]) (nat_lit 0)) (Array.mk []))
noncomputable def r8_1105 (P : Params) : Obj := (.mk (.type "tuple") .none (.seq (Array.mk []) (nat_lit 0)) (Array.mk []))
noncomputable def r8_1106 (P : Params) : Obj := (.mk .none .none (.func (.mk n86 n86 (fA (cel (nat_lit 39))) (.stmts (fB (cel (nat_lit 39)))) (fS (cel (nat_lit 39))) (nat_lit 0) [] .none .none .none .none .none .none .none (nat_lit 0))) (Array.mk []))
noncomputable def r8_1107 (P : Params) : Obj := (.mk (.type "code") .none (.fields (Array.mk [(.str n86 (nat_lit 3294)), (.str n86 (nat_lit 3295)), (.str n37 (nat_lit 3296)), (.int (.ofNat (nat_lit 334)) (nat_lit 0)), (.int (.ofNat (nat_lit 1)) (nat_lit 0)), (.int (.ofNat (nat_lit 0)) (nat_lit 0)), (.int (.ofNat (nat_lit 0)) (nat_lit 0)), (.int (.ofNat (nat_lit 3)) (nat_lit 0)), (.ref (nat_lit 1102)), (.bool true), (.int (.ofNat (nat_lit 181)) (nat_lit 0)), (.ref (nat_lit 1103)), .none, (.ref (nat_lit 1104)), (.ref (nat_lit 1105)), (.ref (nat_lit 1106)), (.int (.ofNat (nat_lit 3298)) (nat_lit 0)), (.int (.ofNat (nat_lit 334)) (nat_lit 0)), (.str n37 (nat_lit 3299))])) (Array.mk []))
noncomputable def r8_1108 (P : Params) : Obj := (.mk (.type "function") .none (.func (.mk n86 n86 (fA (cel (nat_lit 39))) (.stmts (fB (cel (nat_lit 39)))) (fS (cel (nat_lit 39))) (nat_lit 3) [] .none .none .none (.str n83 (nat_lit 3290)) .none (.ref (nat_lit 1107)) .none (nat_lit 0))) (Array.mk []))
noncomputable def r8_1109 (P : Params) : Obj := (.mk (.type "tuple") .none (.seq (Array.mk []) (nat_lit 0)) (Array.mk []))
noncomputable def r8_1110 (P : Params) : Obj := (.mk .none .none (.fields (Array.mk [])) (Array.mk []))
noncomputable def r8_1111 (P : Params) : Obj := (.mk (.type "tuple") .none (.seq (Array.mk [(.str n111 (nat_lit 3304)), (.str n92 (nat_lit 3305)), (.str n112 (nat_lit 3306)), (.str n113 (nat_lit 3307)), (.str n114 (nat_lit 3308))]) (nat_lit 0)) (Array.mk []))
noncomputable def r8_1112 (P : Params) : Obj := (.mk (.type "tuple") .none (.seq (Array.mk []) (nat_lit 0)) (Array.mk []))
noncomputable def r8_1113 (P : Params) : Obj := (.mk .none .none (.func (.mk n87 n87 (fA (cel (nat_lit 40))) (.stmts (fB (cel (nat_lit 40)))) (fS (cel (nat_lit 40))) (nat_lit 0) [] .none .none .none .none .none .none .none (nat_lit 0))) (Array.mk []))
noncomputable def r8_1114 (P : Params) : Obj := (.mk (.type "code") .none (.fields (Array.mk [(.str n87 (nat_lit 3301)), (.str n87 (nat_lit 3302)), (.str n37 (nat_lit 3303)), (.int (.ofNat (nat_lit 336)) (nat_lit 0)), (.int (.ofNat (nat_lit 2)) (nat_lit 0)), (.int (.ofNat (nat_lit 0)) (nat_lit 0)), (.int (.ofNat (nat_lit 0)) (nat_lit 0)), (.int (.ofNat (nat_lit 3)) (nat_lit 0)), (.ref (nat_lit 1109)), (.bool true), (.int (.ofNat (nat_lit 181)) (nat_lit 0)), (.ref (nat_lit 1110)), .none, (.ref (nat_lit 1111)), (.ref (nat_lit 1112)), (.ref (nat_lit 1113)), (.int (.ofNat (nat_lit 3309)) (nat_lit 0)), (.int (.ofNat (nat_lit 336)) (nat_lit 0)), (.str n37 (nat_lit 3310))])) (Array.mk []))
noncomputable def r8_1115 (P : Params) : Obj := (.mk (.type "function") .none (.func (.mk n87 n87 (fA (cel (nat_lit 40))) (.stmts (fB (cel (nat_lit 40)))) (fS (cel (nat_lit 40))) (nat_lit 3) [] .none .none .none (.str n83 (nat_lit 3290)) .none (.ref (nat_lit 1114)) .none (nat_lit 0))) (Array.mk []))
noncomputable def r8_1116 (P : Params) : Obj := (.mk (.type "tuple") .none (.seq (Array.mk []) (nat_lit 0)) (Array.mk []))
noncomputable def r8_1117 (P : Params) : Obj := (.mk .none .none (.fields (Array.mk [])) (Array.mk []))
noncomputable def r8_1118 (P : Params) : Obj := (.mk (.type "tuple") .none (.seq (Array.mk [(.str n111 (nat_lit 3315)), (.str n113 (nat_lit 3316)), (.str n19 (nat_lit 3317)), (.str n115 (nat_lit 3318)), (.str n116 (nat_lit 3319)), (.str n117 (nat_lit 3320))]) (nat_lit 0)) (Array.mk []))
noncomputable def r8_1119 (P : Params) : Obj := (.mk (.type "tuple") .none (.seq (Array.mk []) (nat_lit 0)) (Array.mk []))
noncomputable def r8_1120 (P : Params) : Obj := (.mk .none .none (.func (.mk n88 n88 (fA (cel (nat_lit 41))) (.stmts (fB (cel (nat_lit 41)))) (fS (cel (nat_lit 41))) (nat_lit 0) [] .none .none .none .none .none .none .none (nat_lit 0))) (Array.mk []))
noncomputable def r8_1121 (P : Params) : Obj := (.mk (.type "code") .none (.fields (Array.mk [(.str n88 (nat_lit 3312)), (.str n88 (nat_lit 3313)), (.str n37 (nat_lit 3314)), (.int (.ofNat (nat_lit 347)) (nat_lit 0)), (.int (.ofNat (nat_lit 1)) (nat_lit 0)), (.int (.ofNat (nat_lit 0)) (nat_lit 0)), (.int (.ofNat (nat_lit 0)) (nat_lit 0)), (.int (.ofNat (nat_lit 3)) (nat_lit 0)), (.ref (nat_lit 1116)), (.bool true), (.int (.ofNat (nat_lit 181)) (nat_lit 0)), (.ref (nat_lit 1117)), .none, (.ref (nat_lit 1118)), (.ref (nat_lit 1119)), (.ref (nat_lit 1120)), (.int (.ofNat (nat_lit 3321)) (nat_lit 0)), (.int (.ofNat (nat_lit 347)) (nat_lit 0)), (.str n37 (nat_lit 3322))])) (Array.mk []))
noncomputable def r8_1122 (P : Params) : Obj := (.mk (.type "function") .none (.func (.mk n88 n88 (fA (cel (nat_lit 41))) (.stmts (fB (cel (nat_lit 41)))) (fS (cel (nat_lit 41))) (nat_lit 3) [] .none .none .none (.str n83 (nat_lit 3290)) .none (.ref (nat_lit 1121)) .none (nat_lit 0))) (Array.mk []))
noncomputable def r8_1123 (P : Params) : Obj := (.mk (.type "tuple") .none (.seq (Array.mk []) (nat_lit 0)) (Array.mk []))
noncomputable def r8_1124 (P : Params) : Obj := (.mk .none .none (.fields (Array.mk [])) (Array.mk []))
noncomputable def r8_1125 (P : Params) : Obj := (.mk (.type "tuple") .none (.seq (Array.mk [(.str n111 (nat_lit 3327)), (.str n93 (nat_lit 3328)), (.str n92 (nat_lit 3329)), (.str n112 (nat_lit 3330)), (.str n113 (nat_lit 3331)), (.str n114 (nat_lit 3332))]) (nat_lit 0)) (Array.mk []))
noncomputable def r8_1126 (P : Params) : Obj := (.mk (.type "tuple") .none (.seq (Array.mk []) (nat_lit 0)) (Array.mk []))
noncomputable def r8_1127 (P : Params) : Obj := (.mk .none .none (.func (.mk n89 n89 (fA (cel (nat_lit 42))) (.stmts (fB (cel (nat_lit 42)))) (fS (cel (nat_lit 42))) (nat_lit 0) [] .none .none .none .none .none .none .none (nat_lit 0))) (Array.mk []))
noncomputable def r8_1128 (P : Params) : Obj := (.mk (.type "code") .none (.fields (Array.mk [(.str n89 (nat_lit 3324)), (.str n89 (nat_lit 3325)), (.str n37 (nat_lit 3326)), (.int (.ofNat (nat_lit 357)) (nat_lit 0)), (.int (.ofNat (nat_lit 3)) (nat_lit 0)), (.int (.ofNat (nat_lit 0)) (nat_lit 0)), (.int (.ofNat (nat_lit 0)) (nat_lit 0)), (.int (.ofNat (nat_lit 3)) (nat_lit 0)), (.ref (nat_lit 1123)), (.bool true), (.int (.ofNat (nat_lit 181)) (nat_lit 0)), (.ref (nat_lit 1124)), .none, (.ref (nat_lit 1125)), (.ref (nat_lit 1126)), (.ref (nat_lit 1127)), (.int (.ofNat (nat_lit 3333)) (nat_lit 0)), (.int (.ofNat (nat_lit 357)) (nat_lit 0)), (.str n37 (nat_lit 3334))])) (Array.mk []))
noncomputable def r8_1129 (P : Params) : Obj := (.mk (.type "function") .none (.func (.mk n89 n89 (fA (cel (nat_lit 42))) (.stmts (fB (cel (nat_lit 42)))) (fS (cel (nat_lit 42))) (nat_lit 3) [] .none .none .none (.str n83 (nat_lit 3290)) .none (.ref (nat_lit 1128)) .none (nat_lit 0))) (Array.mk []))
noncomputable def r8T (P : Params) : BT := (BT.ins (BT.ins (BT.ins (BT.ins (BT.ins (BT.ins (BT.ins (BT.ins (BT.ins (BT.ins (BT.ins (BT.ins (BT.ins (BT.ins (BT.ins (BT.ins (BT.ins (BT.ins (BT.ins (BT.ins (BT.ins (BT.ins (BT.ins (BT.ins (BT.ins (BT.ins (BT.ins (BT.ins (BT.ins (BT.ins (BT.ins (BT.ins (BT.ins (BT.ins (BT.ins (BT.ins (BT.ins (BT.ins (r7T P) (nat_lit 3) (r8_3 P)) (nat_lit 12) (r8_12 P)) (nat_lit 1094) (r8_1094 P)) (nat_lit 1095) (r8_1095 P)) (nat_lit 1096) (r8_1096 P)) (nat_lit 1097) (r8_1097 P)) (nat_lit 1098) (r8_1098 P)) (nat_lit 1099) (r8_1099 P)) (nat_lit 1100) (r8_1100 P)) (nat_lit 1101) (r8_1101 P)) (nat_lit 1102) (r8_1102 P)) (nat_lit 1103) (r8_1103 P)) (nat_lit 1104) (r8_1104 P)) (nat_lit 1105) (r8_1105 P)) (nat_lit 1106) (r8_1106 P)) (nat_lit 1107) (r8_1107 P)) (nat_lit 1108) (r8_1108 P)) (nat_lit 1109) (r8_1109 P)) (nat_lit 1110) (r8_1110 P)) (nat_lit 1111) (r8_1111 P)) (nat_lit 1112) (r8_1112 P)) (nat_lit 1113) (r8_1113 P)) (nat_lit 1114) (r8_1114 P)) (nat_lit 1115) (r8_1115 P)) (nat_lit 1116) (r8_1116 P)) (nat_lit 1117) (r8_1117 P)) (nat_lit 1118) (r8_1118 P)) (nat_lit 1119) (r8_1119 P)) (nat_lit 1120) (r8_1120 P)) (nat_lit 1121) (r8_1121 P)) (nat_lit 1122) (r8_1122 P)) (nat_lit 1123) (r8_1123 P)) (nat_lit 1124) (r8_1124 P)) (nat_lit 1125) (r8_1125 P)) (nat_lit 1126) (r8_1126 P)) (nat_lit 1127) (r8_1127 P)) (nat_lit 1128) (r8_1128 P)) (nat_lit 1129) (r8_1129 P))
noncomputable def r8S (w : World) (os : OsState) : SharedT := ⟨r8T w.params, nat_lit 1130, {}, Array.mk [.finished, .finished], {}, nat_lit 3336, os⟩
noncomputable def rE9 (P : Params) : Array DictEntry := (Array.push (rE8 P) (.mk (KH P n118) (.str n118 (nat_lit 3357)) (.ref (nat_lit 1139))))
noncomputable def r9_3 (P : Params) : Obj := ⟨(.type "dict"), .none, .dict (rE9 P) (nat_lit 48), (Array.mk [])⟩
noncomputable def r9_12 (P : Params) : Obj := (.mk .none .none (.fields (Array.mk [(.int (.ofNat (nat_lit 1)) (nat_lit 0)), (.int (.ofNat (nat_lit 0)) (nat_lit 0)), (.ref (nat_lit 20)), (.int (.ofNat (nat_lit 5)) (nat_lit 0)), (.int (.ofNat (nat_lit 0)) (nat_lit 0)), (.ref (nat_lit 27)), (.int (.ofNat (nat_lit 9)) (nat_lit 0)), (.int (.ofNat (nat_lit 0)) (nat_lit 0)), (.ref (nat_lit 34)), (.int (.ofNat (nat_lit 11)) (nat_lit 0)), (.int (.ofNat (nat_lit 0)) (nat_lit 0)), (.ref (nat_lit 47)), (.int (.ofNat (nat_lit 13)) (nat_lit 0)), (.int (.ofNat (nat_lit 0)) (nat_lit 0)), (.ref (nat_lit 54)), (.int (.ofNat (nat_lit 15)) (nat_lit 0)), (.int (.ofNat (nat_lit 0)) (nat_lit 0)), (.ref (nat_lit 61)), (.int (.ofNat (nat_lit 17)) (nat_lit 0)), (.int (.ofNat (nat_lit 0)) (nat_lit 0)), (.ref (nat_lit 69)), (.int (.ofNat (nat_lit 24)) (nat_lit 0)), (.int (.ofNat (nat_lit 0)) (nat_lit 0)), (.ref (nat_lit 76)), (.int (.ofNat (nat_lit 30)) (nat_lit 0)), (.int (.ofNat (nat_lit 0)) (nat_lit 0)), (.ref (nat_lit 84)), (.int (.ofNat (nat_lit 34)) (nat_lit 0)), (.int (.ofNat (nat_lit 0)) (nat_lit 0)), (.ref (nat_lit 91)), (.int (.ofNat (nat_lit 270)) (nat_lit 0)), (.int (.ofNat (nat_lit 0)) (nat_lit 0)), (.ref (nat_lit 298)), (.int (.ofNat (nat_lit 285)) (nat_lit 0)), (.int (.ofNat (nat_lit 0)) (nat_lit 0)), (.ref (nat_lit 1092)), (.int (.ofNat (nat_lit 291)) (nat_lit 0)), (.int (.ofNat (nat_lit 0)) (nat_lit 0)), (.ref (nat_lit 1100)), (.int (.ofNat (nat_lit 334)) (nat_lit 0)), (.int (.ofNat (nat_lit 0)) (nat_lit 0)), (.ref (nat_lit 1107)), (.int (.ofNat (nat_lit 336)) (nat_lit 0)), (.int (.ofNat (nat_lit 0)) (nat_lit 0)), (.ref (nat_lit 1114)), (.int (.ofNat (nat_lit 347)) (nat_lit 0)), (.int (.ofNat (nat_lit 0)) (nat_lit 0)), (.ref (nat_lit 1121)), (.int (.ofNat (nat_lit 357)) (nat_lit 0)), (.int (.ofNat (nat_lit 0)) (nat_lit 0)), (.ref (nat_lit 1128)), (.int (.ofNat (nat_lit 367)) (nat_lit 0)), (.int (.ofNat (nat_lit 0)) (nat_lit 0)), (.ref (nat_lit 1135))])) (Array.mk []))
noncomputable def r9_1130 (P : Params) : Obj := (.mk (.type "tuple") .none (.seq (Array.mk [(.type "object")]) (nat_lit 0)) (Array.mk []))
noncomputable def r9_1131 (P : Params) : Obj := (.mk (.type "builtin_function_or_method") .none (.fields (Array.mk [(.builtin "type.__prepare__"), (.type "type")])) (Array.mk []))
noncomputable def r9_1132 (P : Params) : Obj := (.mk (.type "dict") .none (.dict (Array.mk [(.mk (KH P n119) (.str n119 (nat_lit 3343)) (.str n83 (nat_lit 3290))), (.mk (KH P n120) (.str n120 (nat_lit 3345)) (.str n118 (nat_lit 3344))), (.mk (KH P n121) (.str n121 (nat_lit 3347)) (.int (.ofNat (nat_lit 367)) (nat_lit 3346))), (.mk (KH P n122) (.str n122 (nat_lit 3349)) (.str n118 (nat_lit 3348))), (.mk (KH P n123) (.str n123 (nat_lit 3350)) (.ref (nat_lit 1137)))]) (nat_lit 5)) (Array.mk []))
noncomputable def r9_1133 (P : Params) : Obj := (.mk (.type "tuple") .none (.seq (Array.mk []) (nat_lit 0)) (Array.mk []))
noncomputable def r9_1134 (P : Params) : Obj := (.mk .none .none (.fields (Array.mk [])) (Array.mk []))
noncomputable def r9_1135 (P : Params) : Obj := (.mk (.type "code") .none (.fields (Array.mk [(.str n118 (nat_lit 3338)), (.str n118 (nat_lit 3339)), (.str n37 (nat_lit 3340)), (.int (.ofNat (nat_lit 367)) (nat_lit 0)), (.int (.ofNat (nat_lit 0)) (nat_lit 0)), (.int (.ofNat (nat_lit 0)) (nat_lit 0)), (.int (.ofNat (nat_lit 0)) (nat_lit 0)), (.int (.ofNat (nat_lit 0)) (nat_lit 0)), (.ref (nat_lit 1133)), (.bool false), (.int (.ofNat (nat_lit 181)) (nat_lit 0)), (.ref (nat_lit 1134)), .none, .none, .none, .none, (.int (.ofNat (nat_lit 3341)) (nat_lit 0)), (.int (.ofNat (nat_lit 367)) (nat_lit 0)), (.str n37 (nat_lit 3342))])) (Array.mk []))
noncomputable def r9_1136 (P : Params) : Obj := (.mk (.type "frame") .none .plain (Array.mk [(.some (.ref (nat_lit 1135))), (.some (.ref (nat_lit 3))), (.some (.ref (nat_lit 1132))), .none, (.some (.str n83 (nat_lit 3290))), .none, (.some (.ref (nat_lit 0)))]))
noncomputable def r9_1137 (P : Params) : Obj := (.mk (.type "tuple") .none (.seq (Array.mk []) (nat_lit 0)) (Array.mk []))
noncomputable def r9_1138 (P : Params) : Obj := (.mk (.type "dict") .none (.dict (Array.mk [(.mk (KH P n119) (.str n119 (nat_lit 3343)) (.str n83 (nat_lit 3290))), (.mk (KH P n121) (.str n121 (nat_lit 3347)) (.int (.ofNat (nat_lit 367)) (nat_lit 3346))), (.mk (KH P n122) (.str n122 (nat_lit 3349)) (.str n118 (nat_lit 3348))), (.mk (KH P n123) (.str n123 (nat_lit 3350)) (.ref (nat_lit 1137))), (.mk (KH P n124) (.str n124 (nat_lit 3352)) (.ref (nat_lit 1140))), (.mk (KH P n125) (.str n125 (nat_lit 3354)) (.ref (nat_lit 1141))), (.mk (KH P n43) (.str n43 (nat_lit 3355)) .none)]) (nat_lit 4)) (Array.mk []))
noncomputable def r9_1139 (P : Params) : Obj := (.mk (.type "type") .none (.cls (.mk n118 [(.type "object")] [(.ref (nat_lit 1139)), (.type "object")] (nat_lit 1138) n118 true [] [] false .none false)) (Array.mk [(.some (.ref (nat_lit 1130))), .none, (.some (.str n118 (nat_lit 3336))), (.some (.str n118 (nat_lit 3344))), (.some (.builtin "object.__new__")), (.some (.bool true))]))
noncomputable def r9_1140 (P : Params) : Obj := (.mk (.type "getset_descriptor") .none (.fields (Array.mk [(.str n124 (nat_lit 3351)), (.ref (nat_lit 1139)), (.builtin "function.__dict__"), (.builtin "function.__dict__#set")])) (Array.mk []))
noncomputable def r9_1141 (P : Params) : Obj := (.mk (.type "getset_descriptor") .none (.fields (Array.mk [(.str n125 (nat_lit 3353)), (.ref (nat_lit 1139)), (.builtin "ExceptionGroup.__weakref__"), .none])) (Array.mk []))
noncomputable def r9_1142 (P : Params) : Obj := (.mk (.type "super") .none (.fields (Array.mk [(.ref (nat_lit 1139)), (.ref (nat_lit 1139)), (.ref (nat_lit 1139))])) (Array.mk []))
noncomputable def r9_1143 (P : Params) : Obj := (.mk (.type "builtin_function_or_method") .none (.fields (Array.mk [(.builtin "object.__init_subclass__"), (.ref (nat_lit 1139))])) (Array.mk []))
noncomputable def r9T (P : Params) : BT := (BT.ins (BT.ins (BT.ins (BT.ins (BT.ins (BT.ins (BT.ins (BT.ins (BT.ins (BT.ins (BT.ins (BT.ins (BT.ins (BT.ins (BT.ins (BT.ins (r8T P) (nat_lit 3) (r9_3 P)) (nat_lit 12) (r9_12 P)) (nat_lit 1130) (r9_1130 P)) (nat_lit 1131) (r9_1131 P)) (nat_lit 1132) (r9_1132 P)) (nat_lit 1133) (r9_1133 P)) (nat_lit 1134) (r9_1134 P)) (nat_lit 1135) (r9_1135 P)) (nat_lit 1136) (r9_1136 P)) (nat_lit 1137) (r9_1137 P)) (nat_lit 1138) (r9_1138 P)) (nat_lit 1139) (r9_1139 P)) (nat_lit 1140) (r9_1140 P)) (nat_lit 1141) (r9_1141 P)) (nat_lit 1142) (r9_1142 P)) (nat_lit 1143) (r9_1143 P))
noncomputable def r9S (w : World) (os : OsState) : SharedT := ⟨r9T w.params, nat_lit 1144, {}, Array.mk [.finished, .finished], {}, nat_lit 3358, os⟩
noncomputable def rE10 (P : Params) : Array DictEntry := Array.mk [(.mk (KH P n41) (.str n41 (nat_lit 165)) (.str n126 (nat_lit 3380))), (.mk (KH P n43) (.str n43 (nat_lit 166)) .none), (.mk (KH P n44) (.str n44 (nat_lit 167)) .none), (.mk (KH P n45) (.str n45 (nat_lit 168)) (.builtin "__main__.__loader__#opaque")), (.mk (KH P n46) (.str n46 (nat_lit 169)) .none), (.mk (KH P n47) (.str n47 (nat_lit 170)) (.ref (nat_lit 6))), (.mk (KH P n48) (.str n48 (nat_lit 171)) (.ref (nat_lit 4))), (.mk (KH P n49) (.str n49 (nat_lit 173)) (.str n37 (nat_lit 172))), (.mk (KH P n50) (.str n50 (nat_lit 174)) .none), (.mk (KH P n51) (.str n51 (nat_lit 193)) (.ref (nat_lit 21))), (.mk (KH P n52) (.str n52 (nat_lit 204)) (.ref (nat_lit 28))), (.mk (KH P n53) (.str n53 (nat_lit 224)) (.ref (nat_lit 38))), (.mk (KH P n54) (.str n54 (nat_lit 231)) (.ref (nat_lit 48))), (.mk (KH P n55) (.str n55 (nat_lit 240)) (.ref (nat_lit 55))), (.mk (KH P n6) (.str n6 (nat_lit 248)) (.ref (nat_lit 62))), (.mk (KH P n56) (.str n56 (nat_lit 256)) (.ref (nat_lit 70))), (.mk (KH P n57) (.str n57 (nat_lit 259)) (.bool true)), (.mk (KH P n2) (.str n2 (nat_lit 260)) (.type "str")), (.mk (KH P n58) (.str n58 (nat_lit 261)) (.type "bytes")), (.mk (KH P n59) (.str n59 (nat_lit 262)) (.type "bytes")), (.mk (KH P n60) (.str n60 (nat_lit 269)) (.ref (nat_lit 77))), (.mk (KH P n61) (.str n61 (nat_lit 270)) (.ref (nat_lit 78))), (.mk (KH P n62) (.str n62 (nat_lit 271)) (.type "range")), (.mk (KH P n63) (.str n63 (nat_lit 272)) (.type "map")), (.mk (KH P n64) (.str n64 (nat_lit 279)) (.ref (nat_lit 85))), (.mk (KH P n32) (.str n32 (nat_lit 283)) (.str n34 (nat_lit 282))), (.mk (KH P n65) (.str n65 (nat_lit 581)) (.ref (nat_lit 288))), (.mk (KH P n31) (.str n31 (nat_lit 598)) (.ref (nat_lit 302))), (.mk (KH P n30) (.str n30 (nat_lit 1087)) (.ref (nat_lit 306))), (.mk (KH P n66) (.str n66 (nat_lit 1571)) (.ref (nat_lit 651))), (.mk (KH P n68) (.str n68 (nat_lit 1575)) (.int (.ofNat (nat_lit 16777215)) (nat_lit 1574))), (.mk (KH P n69) (.str n69 (nat_lit 1577)) (.int (.ofNat (nat_lit 18446744073709551615)) (nat_lit 1576))), (.mk (KH P n70) (.str n70 (nat_lit 1579)) (.int (.ofNat (nat_lit 18229723555245850623)) (nat_lit 1578))), (.mk (KH P n71) (.str n71 (nat_lit 1836)) (.ref (nat_lit 1008))), (.mk (KH P n72) (.str n72 (nat_lit 2093)) (.ref (nat_lit 1025))), (.mk (KH P n73) (.str n73 (nat_lit 2350)) (.ref (nat_lit 1042))), (.mk (KH P n74) (.str n74 (nat_lit 2351)) (.ref (nat_lit 1051))), (.mk (KH P n75) (.str n75 (nat_lit 2480)) (.ref (nat_lit 1060))), (.mk (KH P n76) (.str n76 (nat_lit 2993)) (.ref (nat_lit 1069))), (.mk (KH P n77) (.str n77 (nat_lit 3250)) (.ref (nat_lit 1086))), (.mk (KH P n78) (.str n78 (nat_lit 3260)) (.ref (nat_lit 1093))), (.mk (KH P n84) (.str n84 (nat_lit 3289)) (.ref (nat_lit 1101))), (.mk (KH P n85) (.str n85 (nat_lit 3293)) (.bytes (Array.mk [0]) (nat_lit 3292))), (.mk (KH P n86) (.str n86 (nat_lit 3300)) (.ref (nat_lit 1108))), (.mk (KH P n87) (.str n87 (nat_lit 3311)) (.ref (nat_lit 1115))), (.mk (KH P n88) (.str n88 (nat_lit 3323)) (.ref (nat_lit 1122))), (.mk (KH P n89) (.str n89 (nat_lit 3335)) (.ref (nat_lit 1129))), (.mk (KH P n118) (.str n118 (nat_lit 3357)) (.ref (nat_lit 1139))), (.mk (KH P n127) (.str n127 (nat_lit 3379)) (.ref (nat_lit 1153))), (.mk (KH P n128) (.str n128 (nat_lit 3383)) (.bytes (Array.mk [0]) (nat_lit 3382))), (.mk (KH P n129) (.str n129 (nat_lit 3385)) (.bytes (Array.mk [36, 49, 36]) (nat_lit 3384))), (.mk (KH P n130) (.str n130 (nat_lit 3387)) (.bytes (Array.mk [36, 97, 112, 114, 49, 36]) (nat_lit 3386)))]
noncomputable def r10_3 (P : Params) : Obj := ⟨(.type "dict"), .none, .dict (rE10 P) (nat_lit 52), (Array.mk [])⟩
noncomputable def r10_12 (P : Params) : Obj := (.mk .none .none (.fields (Array.mk [(.int (.ofNat (nat_lit 1)) (nat_lit 0)), (.int (.ofNat (nat_lit 0)) (nat_lit 0)), (.ref (nat_lit 20)), (.int (.ofNat (nat_lit 5)) (nat_lit 0)), (.int (.ofNat (nat_lit 0)) (nat_lit 0)), (.ref (nat_lit 27)), (.int (.ofNat (nat_lit 9)) (nat_lit 0)), (.int (.ofNat (nat_lit 0)) (nat_lit 0)), (.ref (nat_lit 34)), (.int (.ofNat (nat_lit 11)) (nat_lit 0)), (.int (.ofNat (nat_lit 0)) (nat_lit 0)), (.ref (nat_lit 47)), (.int (.ofNat (nat_lit 13)) (nat_lit 0)), (.int (.ofNat (nat_lit 0)) (nat_lit 0)), (.ref (nat_lit 54)), (.int (.ofNat (nat_lit 15)) (nat_lit 0)), (.int (.ofNat (nat_lit 0)) (nat_lit 0)), (.ref (nat_lit 61)), (.int (.ofNat (nat_lit 17)) (nat_lit 0)), (.int (.ofNat (nat_lit 0)) (nat_lit 0)), (.ref (nat_lit 69)), (.int (.ofNat (nat_lit 24)) (nat_lit 0)), (.int (.ofNat (nat_lit 0)) (nat_lit 0)), (.ref (nat_lit 76)), (.int (.ofNat (nat_lit 30)) (nat_lit 0)), (.int (.ofNat (nat_lit 0)) (nat_lit 0)), (.ref (nat_lit 84)), (.int (.ofNat (nat_lit 34)) (nat_lit 0)), (.int (.ofNat (nat_lit 0)) (nat_lit 0)), (.ref (nat_lit 91)), (.int (.ofNat (nat_lit 270)) (nat_lit 0)), (.int (.ofNat (nat_lit 0)) (nat_lit 0)), (.ref (nat_lit 298)), (.int (.ofNat (nat_lit 285)) (nat_lit 0)), (.int (.ofNat (nat_lit 0)) (nat_lit 0)), (.ref (nat_lit 1092)), (.int (.ofNat (nat_lit 291)) (nat_lit 0)), (.int (.ofNat (nat_lit 0)) (nat_lit 0)), (.ref (nat_lit 1100)), (.int (.ofNat (nat_lit 334)) (nat_lit 0)), (.int (.ofNat (nat_lit 0)) (nat_lit 0)), (.ref (nat_lit 1107)), (.int (.ofNat (nat_lit 336)) (nat_lit 0)), (.int (.ofNat (nat_lit 0)) (nat_lit 0)), (.ref (nat_lit 1114)), (.int (.ofNat (nat_lit 347)) (nat_lit 0)), (.int (.ofNat (nat_lit 0)) (nat_lit 0)), (.ref (nat_lit 1121)), (.int (.ofNat (nat_lit 357)) (nat_lit 0)), (.int (.ofNat (nat_lit 0)) (nat_lit 0)), (.ref (nat_lit 1128)), (.int (.ofNat (nat_lit 367)) (nat_lit 0)), (.int (.ofNat (nat_lit 0)) (nat_lit 0)), (.ref (nat_lit 1135)), (.int (.ofNat (nat_lit 369)) (nat_lit 0)), (.int (.ofNat (nat_lit 0)) (nat_lit 0)), (.ref (nat_lit 1149))])) (Array.mk []))
noncomputable def r10_1144 (P : Params) : Obj := (.mk (.type "tuple") .none (.seq (Array.mk [(.type "object")]) (nat_lit 0)) (Array.mk []))
noncomputable def r10_1145 (P : Params) : Obj := (.mk (.type "builtin_function_or_method") .none (.fields (Array.mk [(.builtin "type.__prepare__"), (.type "type")])) (Array.mk []))
noncomputable def r10_1146 (P : Params) : Obj := (.mk (.type "dict") .none (.dict (Array.mk [(.mk (KH P n119) (.str n119 (nat_lit 3365)) (.str n83 (nat_lit 3290))), (.mk (KH P n120) (.str n120 (nat_lit 3367)) (.str n127 (nat_lit 3366))), (.mk (KH P n121) (.str n121 (nat_lit 3369)) (.int (.ofNat (nat_lit 369)) (nat_lit 3368))), (.mk (KH P n122) (.str n122 (nat_lit 3371)) (.str n127 (nat_lit 3370))), (.mk (KH P n123) (.str n123 (nat_lit 3372)) (.ref (nat_lit 1151)))]) (nat_lit 5)) (Array.mk []))
noncomputable def r10_1147 (P : Params) : Obj := (.mk (.type "tuple") .none (.seq (Array.mk []) (nat_lit 0)) (Array.mk []))
noncomputable def r10_1148 (P : Params) : Obj := (.mk .none .none (.fields (Array.mk [])) (Array.mk []))
noncomputable def r10_1149 (P : Params) : Obj := (.mk (.type "code") .none (.fields (Array.mk [(.str n127 (nat_lit 3360)), (.str n127 (nat_lit 3361)), (.str n37 (nat_lit 3362)), (.int (.ofNat (nat_lit 369)) (nat_lit 0)), (.int (.ofNat (nat_lit 0)) (nat_lit 0)), (.int (.ofNat (nat_lit 0)) (nat_lit 0)), (.int (.ofNat (nat_lit 0)) (nat_lit 0)), (.int (.ofNat (nat_lit 0)) (nat_lit 0)), (.ref (nat_lit 1147)), (.bool false), (.int (.ofNat (nat_lit 181)) (nat_lit 0)), (.ref (nat_lit 1148)), .none, .none, .none, .none, (.int (.ofNat (nat_lit 3363)) (nat_lit 0)), (.int (.ofNat (nat_lit 369)) (nat_lit 0)), (.str n37 (nat_lit 3364))])) (Array.mk []))
noncomputable def r10_1150 (P : Params) : Obj := (.mk (.type "frame") .none .plain (Array.mk [(.some (.ref (nat_lit 1149))), (.some (.ref (nat_lit 3))), (.some (.ref (nat_lit 1146))), .none, (.some (.str n83 (nat_lit 3290))), .none, (.some (.ref (nat_lit 0)))]))
noncomputable def r10_1151 (P : Params) : Obj := (.mk (.type "tuple") .none (.seq (Array.mk []) (nat_lit 0)) (Array.mk []))
noncomputable def r10_1152 (P : Params) : Obj := (.mk (.type "dict") .none (.dict (Array.mk [(.mk (KH P n119) (.str n119 (nat_lit 3365)) (.str n83 (nat_lit 3290))), (.mk (KH P n121) (.str n121 (nat_lit 3369)) (.int (.ofNat (nat_lit 369)) (nat_lit 3368))), (.mk (KH P n122) (.str n122 (nat_lit 3371)) (.str n127 (nat_lit 3370))), (.mk (KH P n123) (.str n123 (nat_lit 3372)) (.ref (nat_lit 1151))), (.mk (KH P n124) (.str n124 (nat_lit 3374)) (.ref (nat_lit 1154))), (.mk (KH P n125) (.str n125 (nat_lit 3376)) (.ref (nat_lit 1155))), (.mk (KH P n43) (.str n43 (nat_lit 3377)) .none)]) (nat_lit 4)) (Array.mk []))
noncomputable def r10_1153 (P : Params) : Obj := (.mk (.type "type") .none (.cls (.mk n127 [(.type "object")] [(.ref (nat_lit 1153)), (.type "object")] (nat_lit 1152) n127 true [] [] false .none false)) (Array.mk [(.some (.ref (nat_lit 1144))), .none, (.some (.str n127 (nat_lit 3358))), (.some (.str n127 (nat_lit 3366))), (.some (.builtin "object.__new__")), (.some (.bool true))]))
noncomputable def r10_1154 (P : Params) : Obj := (.mk (.type "getset_descriptor") .none (.fields (Array.mk [(.str n124 (nat_lit 3373)), (.ref (nat_lit 1153)), (.builtin "function.__dict__"), (.builtin "function.__dict__#set")])) (Array.mk []))
noncomputable def r10_1155 (P : Params) : Obj := (.mk (.type "getset_descriptor") .none (.fields (Array.mk [(.str n125 (nat_lit 3375)), (.ref (nat_lit 1153)), (.builtin "ExceptionGroup.__weakref__"), .none])) (Array.mk []))
noncomputable def r10_1156 (P : Params) : Obj := (.mk (.type "super") .none (.fields (Array.mk [(.ref (nat_lit 1153)), (.ref (nat_lit 1153)), (.ref (nat_lit 1153))])) (Array.mk []))
noncomputable def r10_1157 (P : Params) : Obj := (.mk (.type "builtin_function_or_method") .none (.fields (Array.mk [(.builtin "object.__init_subclass__"), (.ref (nat_lit 1153))])) (Array.mk []))
noncomputable def r10T (P : Params) : BT := (BT.ins (BT.ins (BT.ins (BT.ins (BT.ins (BT.ins (BT.ins (BT.ins (BT.ins (BT.ins (BT.ins (BT.ins (BT.ins (BT.ins (BT.ins (BT.ins (r9T P) (nat_lit 3) (r10_3 P)) (nat_lit 12) (r10_12 P)) (nat_lit 1144) (r10_1144 P)) (nat_lit 1145) (r10_1145 P)) (nat_lit 1146) (r10_1146 P)) (nat_lit 1147) (r10_1147 P)) (nat_lit 1148) (r10_1148 P)) (nat_lit 1149) (r10_1149 P)) (nat_lit 1150) (r10_1150 P)) (nat_lit 1151) (r10_1151 P)) (nat_lit 1152) (r10_1152 P)) (nat_lit 1153) (r10_1153 P)) (nat_lit 1154) (r10_1154 P)) (nat_lit 1155) (r10_1155 P)) (nat_lit 1156) (r10_1156 P)) (nat_lit 1157) (r10_1157 P))
noncomputable def r10S (w : World) (os : OsState) : SharedT := ⟨r10T w.params, nat_lit 1158, {}, Array.mk [.finished, .finished], {}, nat_lit 3388, os⟩
noncomputable def rE11 (P : Params) : Array DictEntry := (Array.push (Array.push (Array.push (rE10 P) (.mk (KH P n131) (.str n131 (nat_lit 3430)) (.ref (nat_lit 1179)))) (.mk (KH P n132) (.str n132 (nat_lit 3447)) (.ref (nat_lit 1180)))) (.mk (KH P n133) (.str n133 (nat_lit 3454)) (.ref (nat_lit 1186))))
noncomputable def r11_3 (P : Params) : Obj := ⟨(.type "dict"), .none, .dict (rE11 P) (nat_lit 55), (Array.mk [])⟩
noncomputable def r11_12 (P : Params) : Obj := (.mk .none .none (.fields (Array.mk [(.int (.ofNat (nat_lit 1)) (nat_lit 0)), (.int (.ofNat (nat_lit 0)) (nat_lit 0)), (.ref (nat_lit 20)), (.int (.ofNat (nat_lit 5)) (nat_lit 0)), (.int (.ofNat (nat_lit 0)) (nat_lit 0)), (.ref (nat_lit 27)), (.int (.ofNat (nat_lit 9)) (nat_lit 0)), (.int (.ofNat (nat_lit 0)) (nat_lit 0)), (.ref (nat_lit 34)), (.int (.ofNat (nat_lit 11)) (nat_lit 0)), (.int (.ofNat (nat_lit 0)) (nat_lit 0)), (.ref (nat_lit 47)), (.int (.ofNat (nat_lit 13)) (nat_lit 0)), (.int (.ofNat (nat_lit 0)) (nat_lit 0)), (.ref (nat_lit 54)), (.int (.ofNat (nat_lit 15)) (nat_lit 0)), (.int (.ofNat (nat_lit 0)) (nat_lit 0)), (.ref (nat_lit 61)), (.int (.ofNat (nat_lit 17)) (nat_lit 0)), (.int (.ofNat (nat_lit 0)) (nat_lit 0)), (.ref (nat_lit 69)), (.int (.ofNat (nat_lit 24)) (nat_lit 0)), (.int (.ofNat (nat_lit 0)) (nat_lit 0)), (.ref (nat_lit 76)), (.int (.ofNat (nat_lit 30)) (nat_lit 0)), (.int (.ofNat (nat_lit 0)) (nat_lit 0)), (.ref (nat_lit 84)), (.int (.ofNat (nat_lit 34)) (nat_lit 0)), (.int (.ofNat (nat_lit 0)) (nat_lit 0)), (.ref (nat_lit 91)), (.int (.ofNat (nat_lit 270)) (nat_lit 0)), (.int (.ofNat (nat_lit 0)) (nat_lit 0)), (.ref (nat_lit 298)), (.int (.ofNat (nat_lit 285)) (nat_lit 0)), (.int (.ofNat (nat_lit 0)) (nat_lit 0)), (.ref (nat_lit 1092)), (.int (.ofNat (nat_lit 291)) (nat_lit 0)), (.int (.ofNat (nat_lit 0)) (nat_lit 0)), (.ref (nat_lit 1100)), (.int (.ofNat (nat_lit 334)) (nat_lit 0)), (.int (.ofNat (nat_lit 0)) (nat_lit 0)), (.ref (nat_lit 1107)), (.int (.ofNat (nat_lit 336)) (nat_lit 0)), (.int (.ofNat (nat_lit 0)) (nat_lit 0)), (.ref (nat_lit 1114)), (.int (.ofNat (nat_lit 347)) (nat_lit 0)), (.int (.ofNat (nat_lit 0)) (nat_lit 0)), (.ref (nat_lit 1121)), (.int (.ofNat (nat_lit 357)) (nat_lit 0)), (.int (.ofNat (nat_lit 0)) (nat_lit 0)), (.ref (nat_lit 1128)), (.int (.ofNat (nat_lit 367)) (nat_lit 0)), (.int (.ofNat (nat_lit 0)) (nat_lit 0)), (.ref (nat_lit 1135)), (.int (.ofNat (nat_lit 369)) (nat_lit 0)), (.int (.ofNat (nat_lit 0)) (nat_lit 0)), (.ref (nat_lit 1149)), (.int (.ofNat (nat_lit 377)) (nat_lit 0)), (.int (.ofNat (nat_lit 0)) (nat_lit 0)), (.ref (nat_lit 1185))])) (Array.mk []))
noncomputable def r11_1158 (P : Params) : Obj := (.mk (.type "tuple") .none (.seq (Array.mk [(.int (.ofNat (nat_lit 0)) (nat_lit 3388)), (.int (.ofNat (nat_lit 3)) (nat_lit 3389))]) (nat_lit 0)) (Array.mk []))
noncomputable def r11_1159 (P : Params) : Obj := (.mk (.type "tuple") .none (.seq (Array.mk [(.int (.ofNat (nat_lit 5)) (nat_lit 3390)), (.int (.ofNat (nat_lit 1)) (nat_lit 3391))]) (nat_lit 0)) (Array.mk []))
noncomputable def r11_1160 (P : Params) : Obj := (.mk (.type "tuple") .none (.seq (Array.mk [(.int (.ofNat (nat_lit 5)) (nat_lit 3392)), (.int (.ofNat (nat_lit 3)) (nat_lit 3393))]) (nat_lit 0)) (Array.mk []))
noncomputable def r11_1161 (P : Params) : Obj := (.mk (.type "tuple") .none (.seq (Array.mk [(.int (.ofNat (nat_lit 1)) (nat_lit 3394)), (.int (.ofNat (nat_lit 2)) (nat_lit 3395))]) (nat_lit 0)) (Array.mk []))
noncomputable def r11_1162 (P : Params) : Obj := (.mk (.type "tuple") .none (.seq (Array.mk [(.int (.ofNat (nat_lit 5)) (nat_lit 3396)), (.int (.ofNat (nat_lit 1)) (nat_lit 3397))]) (nat_lit 0)) (Array.mk []))
noncomputable def r11_1163 (P : Params) : Obj := (.mk (.type "tuple") .none (.seq (Array.mk [(.int (.ofNat (nat_lit 5)) (nat_lit 3398)), (.int (.ofNat (nat_lit 3)) (nat_lit 3399))]) (nat_lit 0)) (Array.mk []))
noncomputable def r11_1164 (P : Params) : Obj := (.mk (.type "tuple") .none (.seq (Array.mk [(.int (.ofNat (nat_lit 1)) (nat_lit 3400)), (.int (.ofNat (nat_lit 3)) (nat_lit 3401))]) (nat_lit 0)) (Array.mk []))
noncomputable def r11_1165 (P : Params) : Obj := (.mk (.type "tuple") .none (.seq (Array.mk [(.int (.ofNat (nat_lit 4)) (nat_lit 3402)), (.int (.ofNat (nat_lit 1)) (nat_lit 3403))]) (nat_lit 0)) (Array.mk []))
noncomputable def r11_1166 (P : Params) : Obj := (.mk (.type "tuple") .none (.seq (Array.mk [(.int (.ofNat (nat_lit 5)) (nat_lit 3404)), (.int (.ofNat (nat_lit 3)) (nat_lit 3405))]) (nat_lit 0)) (Array.mk []))
noncomputable def r11_1167 (P : Params) : Obj := (.mk (.type "tuple") .none (.seq (Array.mk [(.int (.ofNat (nat_lit 1)) (nat_lit 3406)), (.int (.ofNat (nat_lit 3)) (nat_lit 3407))]) (nat_lit 0)) (Array.mk []))
noncomputable def r11_1168 (P : Params) : Obj := (.mk (.type "tuple") .none (.seq (Array.mk [(.int (.ofNat (nat_lit 5)) (nat_lit 3408)), (.int (.ofNat (nat_lit 0)) (nat_lit 3409))]) (nat_lit 0)) (Array.mk []))
noncomputable def r11_1169 (P : Params) : Obj := (.mk (.type "tuple") .none (.seq (Array.mk [(.int (.ofNat (nat_lit 5)) (nat_lit 3410)), (.int (.ofNat (nat_lit 3)) (nat_lit 3411))]) (nat_lit 0)) (Array.mk []))
noncomputable def r11_1170 (P : Params) : Obj := (.mk (.type "tuple") .none (.seq (Array.mk [(.int (.ofNat (nat_lit 1)) (nat_lit 3412)), (.int (.ofNat (nat_lit 3)) (nat_lit 3413))]) (nat_lit 0)) (Array.mk []))
noncomputable def r11_1171 (P : Params) : Obj := (.mk (.type "tuple") .none (.seq (Array.mk [(.int (.ofNat (nat_lit 5)) (nat_lit 3414)), (.int (.ofNat (nat_lit 1)) (nat_lit 3415))]) (nat_lit 0)) (Array.mk []))
noncomputable def r11_1172 (P : Params) : Obj := (.mk (.type "tuple") .none (.seq (Array.mk [(.int (.ofNat (nat_lit 4)) (nat_lit 3416)), (.int (.ofNat (nat_lit 3)) (nat_lit 3417))]) (nat_lit 0)) (Array.mk []))
noncomputable def r11_1173 (P : Params) : Obj := (.mk (.type "tuple") .none (.seq (Array.mk [(.int (.ofNat (nat_lit 1)) (nat_lit 3418)), (.int (.ofNat (nat_lit 3)) (nat_lit 3419))]) (nat_lit 0)) (Array.mk []))
noncomputable def r11_1174 (P : Params) : Obj := (.mk (.type "tuple") .none (.seq (Array.mk [(.int (.ofNat (nat_lit 5)) (nat_lit 3420)), (.int (.ofNat (nat_lit 1)) (nat_lit 3421))]) (nat_lit 0)) (Array.mk []))
noncomputable def r11_1175 (P : Params) : Obj := (.mk (.type "tuple") .none (.seq (Array.mk [(.int (.ofNat (nat_lit 5)) (nat_lit 3422)), (.int (.ofNat (nat_lit 2)) (nat_lit 3423))]) (nat_lit 0)) (Array.mk []))
noncomputable def r11_1176 (P : Params) : Obj := (.mk (.type "tuple") .none (.seq (Array.mk [(.int (.ofNat (nat_lit 1)) (nat_lit 3424)), (.int (.ofNat (nat_lit 3)) (nat_lit 3425))]) (nat_lit 0)) (Array.mk []))
noncomputable def r11_1177 (P : Params) : Obj := (.mk (.type "tuple") .none (.seq (Array.mk [(.int (.ofNat (nat_lit 5)) (nat_lit 3426)), (.int (.ofNat (nat_lit 1)) (nat_lit 3427))]) (nat_lit 0)) (Array.mk []))
noncomputable def r11_1178 (P : Params) : Obj := (.mk (.type "tuple") .none (.seq (Array.mk [(.int (.ofNat (nat_lit 5)) (nat_lit 3428)), (.int (.ofNat (nat_lit 3)) (nat_lit 3429))]) (nat_lit 0)) (Array.mk []))
noncomputable def r11_1179 (P : Params) : Obj := (.mk (.type "tuple") .none (.seq (Array.mk [(.ref (nat_lit 1158)), (.ref (nat_lit 1159)), (.ref (nat_lit 1160)), (.ref (nat_lit 1161)), (.ref (nat_lit 1162)), (.ref (nat_lit 1163)), (.ref (nat_lit 1164)), (.ref (nat_lit 1165)), (.ref (nat_lit 1166)), (.ref (nat_lit 1167)), (.ref (nat_lit 1168)), (.ref (nat_lit 1169)), (.ref (nat_lit 1170)), (.ref (nat_lit 1171)), (.ref (nat_lit 1172)), (.ref (nat_lit 1173)), (.ref (nat_lit 1174)), (.ref (nat_lit 1175)), (.ref (nat_lit 1176)), (.ref (nat_lit 1177)), (.ref (nat_lit 1178))]) (nat_lit 0)) (Array.mk []))
noncomputable def r11_1180 (P : Params) : Obj := (.mk (.type "tuple") .none (.seq (Array.mk [(.int (.ofNat (nat_lit 12)) (nat_lit 3431)), (.int (.ofNat (nat_lit 6)) (nat_lit 3432)), (.int (.ofNat (nat_lit 0)) (nat_lit 3433)), (.int (.ofNat (nat_lit 13)) (nat_lit 3434)), (.int (.ofNat (nat_lit 7)) (nat_lit 3435)), (.int (.ofNat (nat_lit 1)) (nat_lit 3436)), (.int (.ofNat (nat_lit 14)) (nat_lit 3437)), (.int (.ofNat (nat_lit 8)) (nat_lit 3438)), (.int (.ofNat (nat_lit 2)) (nat_lit 3439)), (.int (.ofNat (nat_lit 15)) (nat_lit 3440)), (.int (.ofNat (nat_lit 9)) (nat_lit 3441)), (.int (.ofNat (nat_lit 3)) (nat_lit 3442)), (.int (.ofNat (nat_lit 5)) (nat_lit 3443)), (.int (.ofNat (nat_lit 10)) (nat_lit 3444)), (.int (.ofNat (nat_lit 4)) (nat_lit 3445)), (.int (.ofNat (nat_lit 11)) (nat_lit 3446))]) (nat_lit 0)) (Array.mk []))
noncomputable def r11_1181 (P : Params) : Obj := (.mk (.type "tuple") .none (.seq (Array.mk [(.bool false), (.int (.ofNat (nat_lit 23)) (nat_lit 3448))]) (nat_lit 0)) (Array.mk []))
noncomputable def r11_1182 (P : Params) : Obj := (.mk (.type "tuple") .none (.seq (Array.mk []) (nat_lit 0)) (Array.mk []))
noncomputable def r11_1183 (P : Params) : Obj := (.mk .none .none (.fields (Array.mk [])) (Array.mk []))
noncomputable def r11_1184 (P : Params) : Obj := (.mk .none .none (.func (.mk n133 n133 (fA (cel (nat_lit 51))) (.stmts (fB (cel (nat_lit 51)))) (fS (cel (nat_lit 51))) (nat_lit 0) [] .none .none .none .none .none .none .none (nat_lit 0))) (Array.mk []))
noncomputable def r11_1185 (P : Params) : Obj := (.mk (.type "code") .none (.fields (Array.mk [(.str n133 (nat_lit 3449)), (.str n133 (nat_lit 3450)), (.str n37 (nat_lit 3451)), (.int (.ofNat (nat_lit 377)) (nat_lit 0)), (.int (.ofNat (nat_lit 5)) (nat_lit 0)), (.int (.ofNat (nat_lit 0)) (nat_lit 0)), (.int (.ofNat (nat_lit 0)) (nat_lit 0)), (.int (.ofNat (nat_lit 3)) (nat_lit 0)), (.ref (nat_lit 1182)), (.bool true), (.int (.ofNat (nat_lit 181)) (nat_lit 0)), (.ref (nat_lit 1183)), .none, .none, .none, (.ref (nat_lit 1184)), (.int (.ofNat (nat_lit 3452)) (nat_lit 0)), (.int (.ofNat (nat_lit 377)) (nat_lit 0)), (.str n37 (nat_lit 3453))])) (Array.mk []))
noncomputable def r11_1186 (P : Params) : Obj := (.mk (.type "function") .none (.func (.mk n133 n133 (fA (cel (nat_lit 51))) (.stmts (fB (cel (nat_lit 51)))) (fS (cel (nat_lit 51))) (nat_lit 3) [] (.ref (nat_lit 1181)) .none .none (.str n126 (nat_lit 3380)) .none (.ref (nat_lit 1185)) .none (nat_lit 0))) (Array.mk []))
noncomputable def r11T (P : Params) : BT := (BT.ins (BT.ins (BT.ins (BT.ins (BT.ins (BT.ins (BT.ins (BT.ins (BT.ins (BT.ins (BT.ins (BT.ins (BT.ins (BT.ins (BT.ins (BT.ins (BT.ins (BT.ins (BT.ins (BT.ins (BT.ins (BT.ins (BT.ins (BT.ins (BT.ins (BT.ins (BT.ins (BT.ins (BT.ins (BT.ins (BT.ins (r10T P) (nat_lit 3) (r11_3 P)) (nat_lit 12) (r11_12 P)) (nat_lit 1158) (r11_1158 P)) (nat_lit 1159) (r11_1159 P)) (nat_lit 1160) (r11_1160 P)) (nat_lit 1161) (r11_1161 P)) (nat_lit 1162) (r11_1162 P)) (nat_lit 1163) (r11_1163 P)) (nat_lit 1164) (r11_1164 P)) (nat_lit 1165) (r11_1165 P)) (nat_lit 1166) (r11_1166 P)) (nat_lit 1167) (r11_1167 P)) (nat_lit 1168) (r11_1168 P)) (nat_lit 1169) (r11_1169 P)) (nat_lit 1170) (r11_1170 P)) (nat_lit 1171) (r11_1171 P)) (nat_lit 1172) (r11_1172 P)) (nat_lit 1173) (r11_1173 P)) (nat_lit 1174) (r11_1174 P)) (nat_lit 1175) (r11_1175 P)) (nat_lit 1176) (r11_1176 P)) (nat_lit 1177) (r11_1177 P)) (nat_lit 1178) (r11_1178 P)) (nat_lit 1179) (r11_1179 P)) (nat_lit 1180) (r11_1180 P)) (nat_lit 1181) (r11_1181 P)) (nat_lit 1182) (r11_1182 P)) (nat_lit 1183) (r11_1183 P)) (nat_lit 1184) (r11_1184 P)) (nat_lit 1185) (r11_1185 P)) (nat_lit 1186) (r11_1186 P))
noncomputable def r11S (w : World) (os : OsState) : SharedT := ⟨r11T w.params, nat_lit 1187, {}, Array.mk [.finished, .finished], {}, nat_lit 3455, os⟩
noncomputable def rE12 (P : Params) : Array DictEntry := Array.mk [(.mk (KH P n41) (.str n41 (nat_lit 165)) (.str n134 (nat_lit 3477))), (.mk (KH P n43) (.str n43 (nat_lit 166)) .none), (.mk (KH P n44) (.str n44 (nat_lit 167)) .none), (.mk (KH P n45) (.str n45 (nat_lit 168)) (.builtin "__main__.__loader__#opaque")), (.mk (KH P n46) (.str n46 (nat_lit 169)) .none), (.mk (KH P n47) (.str n47 (nat_lit 170)) (.ref (nat_lit 6))), (.mk (KH P n48) (.str n48 (nat_lit 171)) (.ref (nat_lit 4))), (.mk (KH P n49) (.str n49 (nat_lit 173)) (.str n37 (nat_lit 172))), (.mk (KH P n50) (.str n50 (nat_lit 174)) .none), (.mk (KH P n51) (.str n51 (nat_lit 193)) (.ref (nat_lit 21))), (.mk (KH P n52) (.str n52 (nat_lit 204)) (.ref (nat_lit 28))), (.mk (KH P n53) (.str n53 (nat_lit 224)) (.ref (nat_lit 38))), (.mk (KH P n54) (.str n54 (nat_lit 231)) (.ref (nat_lit 48))), (.mk (KH P n55) (.str n55 (nat_lit 240)) (.ref (nat_lit 55))), (.mk (KH P n6) (.str n6 (nat_lit 248)) (.ref (nat_lit 62))), (.mk (KH P n56) (.str n56 (nat_lit 256)) (.ref (nat_lit 70))), (.mk (KH P n57) (.str n57 (nat_lit 259)) (.bool true)), (.mk (KH P n2) (.str n2 (nat_lit 260)) (.type "str")), (.mk (KH P n58) (.str n58 (nat_lit 261)) (.type "bytes")), (.mk (KH P n59) (.str n59 (nat_lit 262)) (.type "bytes")), (.mk (KH P n60) (.str n60 (nat_lit 269)) (.ref (nat_lit 77))), (.mk (KH P n61) (.str n61 (nat_lit 270)) (.ref (nat_lit 78))), (.mk (KH P n62) (.str n62 (nat_lit 271)) (.type "range")), (.mk (KH P n63) (.str n63 (nat_lit 272)) (.type "map")), (.mk (KH P n64) (.str n64 (nat_lit 279)) (.ref (nat_lit 85))), (.mk (KH P n32) (.str n32 (nat_lit 283)) (.str n34 (nat_lit 282))), (.mk (KH P n65) (.str n65 (nat_lit 581)) (.ref (nat_lit 288))), (.mk (KH P n31) (.str n31 (nat_lit 598)) (.ref (nat_lit 302))), (.mk (KH P n30) (.str n30 (nat_lit 1087)) (.ref (nat_lit 306))), (.mk (KH P n66) (.str n66 (nat_lit 1571)) (.ref (nat_lit 651))), (.mk (KH P n68) (.str n68 (nat_lit 1575)) (.int (.ofNat (nat_lit 16777215)) (nat_lit 1574))), (.mk (KH P n69) (.str n69 (nat_lit 1577)) (.int (.ofNat (nat_lit 18446744073709551615)) (nat_lit 1576))), (.mk (KH P n70) (.str n70 (nat_lit 1579)) (.int (.ofNat (nat_lit 18229723555245850623)) (nat_lit 1578))), (.mk (KH P n71) (.str n71 (nat_lit 1836)) (.ref (nat_lit 1008))), (.mk (KH P n72) (.str n72 (nat_lit 2093)) (.ref (nat_lit 1025))), (.mk (KH P n73) (.str n73 (nat_lit 2350)) (.ref (nat_lit 1042))), (.mk (KH P n74) (.str n74 (nat_lit 2351)) (.ref (nat_lit 1051))), (.mk (KH P n75) (.str n75 (nat_lit 2480)) (.ref (nat_lit 1060))), (.mk (KH P n76) (.str n76 (nat_lit 2993)) (.ref (nat_lit 1069))), (.mk (KH P n77) (.str n77 (nat_lit 3250)) (.ref (nat_lit 1086))), (.mk (KH P n78) (.str n78 (nat_lit 3260)) (.ref (nat_lit 1093))), (.mk (KH P n84) (.str n84 (nat_lit 3289)) (.ref (nat_lit 1101))), (.mk (KH P n85) (.str n85 (nat_lit 3293)) (.bytes (Array.mk [0]) (nat_lit 3292))), (.mk (KH P n86) (.str n86 (nat_lit 3300)) (.ref (nat_lit 1108))), (.mk (KH P n87) (.str n87 (nat_lit 3311)) (.ref (nat_lit 1115))), (.mk (KH P n88) (.str n88 (nat_lit 3323)) (.ref (nat_lit 1122))), (.mk (KH P n89) (.str n89 (nat_lit 3335)) (.ref (nat_lit 1129))), (.mk (KH P n118) (.str n118 (nat_lit 3357)) (.ref (nat_lit 1139))), (.mk (KH P n127) (.str n127 (nat_lit 3379)) (.ref (nat_lit 1153))), (.mk (KH P n128) (.str n128 (nat_lit 3383)) (.bytes (Array.mk [0]) (nat_lit 3382))), (.mk (KH P n129) (.str n129 (nat_lit 3385)) (.bytes (Array.mk [36, 49, 36]) (nat_lit 3384))), (.mk (KH P n130) (.str n130 (nat_lit 3387)) (.bytes (Array.mk [36, 97, 112, 114, 49, 36]) (nat_lit 3386))), (.mk (KH P n131) (.str n131 (nat_lit 3430)) (.ref (nat_lit 1179))), (.mk (KH P n132) (.str n132 (nat_lit 3447)) (.ref (nat_lit 1180))), (.mk (KH P n133) (.str n133 (nat_lit 3454)) (.ref (nat_lit 1186))), (.mk (KH P n135) (.str n135 (nat_lit 3476)) (.ref (nat_lit 1196))), (.mk (KH P n136) (.str n136 (nat_lit 3480)) (.bytes (Array.mk [0]) (nat_lit 3479))), (.mk (KH P n137) (.str n137 (nat_lit 3523)) (.ref (nat_lit 1222)))]
noncomputable def r12_3 (P : Params) : Obj := ⟨(.type "dict"), .none, .dict (rE12 P) (nat_lit 58), (Array.mk [])⟩
noncomputable def r12_12 (P : Params) : Obj := (.mk .none .none (.fields (Array.mk [(.int (.ofNat (nat_lit 1)) (nat_lit 0)), (.int (.ofNat (nat_lit 0)) (nat_lit 0)), (.ref (nat_lit 20)), (.int (.ofNat (nat_lit 5)) (nat_lit 0)), (.int (.ofNat (nat_lit 0)) (nat_lit 0)), (.ref (nat_lit 27)), (.int (.ofNat (nat_lit 9)) (nat_lit 0)), (.int (.ofNat (nat_lit 0)) (nat_lit 0)), (.ref (nat_lit 34)), (.int (.ofNat (nat_lit 11)) (nat_lit 0)), (.int (.ofNat (nat_lit 0)) (nat_lit 0)), (.ref (nat_lit 47)), (.int (.ofNat (nat_lit 13)) (nat_lit 0)), (.int (.ofNat (nat_lit 0)) (nat_lit 0)), (.ref (nat_lit 54)), (.int (.ofNat (nat_lit 15)) (nat_lit 0)), (.int (.ofNat (nat_lit 0)) (nat_lit 0)), (.ref (nat_lit 61)), (.int (.ofNat (nat_lit 17)) (nat_lit 0)), (.int (.ofNat (nat_lit 0)) (nat_lit 0)), (.ref (nat_lit 69)), (.int (.ofNat (nat_lit 24)) (nat_lit 0)), (.int (.ofNat (nat_lit 0)) (nat_lit 0)), (.ref (nat_lit 76)), (.int (.ofNat (nat_lit 30)) (nat_lit 0)), (.int (.ofNat (nat_lit 0)) (nat_lit 0)), (.ref (nat_lit 84)), (.int (.ofNat (nat_lit 34)) (nat_lit 0)), (.int (.ofNat (nat_lit 0)) (nat_lit 0)), (.ref (nat_lit 91)), (.int (.ofNat (nat_lit 270)) (nat_lit 0)), (.int (.ofNat (nat_lit 0)) (nat_lit 0)), (.ref (nat_lit 298)), (.int (.ofNat (nat_lit 285)) (nat_lit 0)), (.int (.ofNat (nat_lit 0)) (nat_lit 0)), (.ref (nat_lit 1092)), (.int (.ofNat (nat_lit 291)) (nat_lit 0)), (.int (.ofNat (nat_lit 0)) (nat_lit 0)), (.ref (nat_lit 1100)), (.int (.ofNat (nat_lit 334)) (nat_lit 0)), (.int (.ofNat (nat_lit 0)) (nat_lit 0)), (.ref (nat_lit 1107)), (.int (.ofNat (nat_lit 336)) (nat_lit 0)), (.int (.ofNat (nat_lit 0)) (nat_lit 0)), (.ref (nat_lit 1114)), (.int (.ofNat (nat_lit 347)) (nat_lit 0)), (.int (.ofNat (nat_lit 0)) (nat_lit 0)), (.ref (nat_lit 1121)), (.int (.ofNat (nat_lit 357)) (nat_lit 0)), (.int (.ofNat (nat_lit 0)) (nat_lit 0)), (.ref (nat_lit 1128)), (.int (.ofNat (nat_lit 367)) (nat_lit 0)), (.int (.ofNat (nat_lit 0)) (nat_lit 0)), (.ref (nat_lit 1135)), (.int (.ofNat (nat_lit 369)) (nat_lit 0)), (.int (.ofNat (nat_lit 0)) (nat_lit 0)), (.ref (nat_lit 1149)), (.int (.ofNat (nat_lit 377)) (nat_lit 0)), (.int (.ofNat (nat_lit 0)) (nat_lit 0)), (.ref (nat_lit 1185)), (.int (.ofNat (nat_lit 413)) (nat_lit 0)), (.int (.ofNat (nat_lit 0)) (nat_lit 0)), (.ref (nat_lit 1192))])) (Array.mk []))
noncomputable def r12_1187 (P : Params) : Obj := (.mk (.type "tuple") .none (.seq (Array.mk [(.type "object")]) (nat_lit 0)) (Array.mk []))
noncomputable def r12_1188 (P : Params) : Obj := (.mk (.type "builtin_function_or_method") .none (.fields (Array.mk [(.builtin "type.__prepare__"), (.type "type")])) (Array.mk []))
noncomputable def r12_1189 (P : Params) : Obj := (.mk (.type "dict") .none (.dict (Array.mk [(.mk (KH P n119) (.str n119 (nat_lit 3462)) (.str n126 (nat_lit 3380))), (.mk (KH P n120) (.str n120 (nat_lit 3464)) (.str n135 (nat_lit 3463))), (.mk (KH P n121) (.str n121 (nat_lit 3466)) (.int (.ofNat (nat_lit 413)) (nat_lit 3465))), (.mk (KH P n122) (.str n122 (nat_lit 3468)) (.str n135 (nat_lit 3467))), (.mk (KH P n123) (.str n123 (nat_lit 3469)) (.ref (nat_lit 1194)))]) (nat_lit 5)) (Array.mk []))
noncomputable def r12_1190 (P : Params) : Obj := (.mk (.type "tuple") .none (.seq (Array.mk []) (nat_lit 0)) (Array.mk []))
noncomputable def r12_1191 (P : Params) : Obj := (.mk .none .none (.fields (Array.mk [])) (Array.mk []))
noncomputable def r12_1192 (P : Params) : Obj := (.mk (.type "code") .none (.fields (Array.mk [(.str n135 (nat_lit 3457)), (.str n135 (nat_lit 3458)), (.str n37 (nat_lit 3459)), (.int (.ofNat (nat_lit 413)) (nat_lit 0)), (.int (.ofNat (nat_lit 0)) (nat_lit 0)), (.int (.ofNat (nat_lit 0)) (nat_lit 0)), (.int (.ofNat (nat_lit 0)) (nat_lit 0)), (.int (.ofNat (nat_lit 0)) (nat_lit 0)), (.ref (nat_lit 1190)), (.bool false), (.int (.ofNat (nat_lit 181)) (nat_lit 0)), (.ref (nat_lit 1191)), .none, .none, .none, .none, (.int (.ofNat (nat_lit 3460)) (nat_lit 0)), (.int (.ofNat (nat_lit 413)) (nat_lit 0)), (.str n37 (nat_lit 3461))])) (Array.mk []))
noncomputable def r12_1193 (P : Params) : Obj := (.mk (.type "frame") .none .plain (Array.mk [(.some (.ref (nat_lit 1192))), (.some (.ref (nat_lit 3))), (.some (.ref (nat_lit 1189))), .none, (.some (.str n126 (nat_lit 3380))), .none, (.some (.ref (nat_lit 0)))]))
noncomputable def r12_1194 (P : Params) : Obj := (.mk (.type "tuple") .none (.seq (Array.mk []) (nat_lit 0)) (Array.mk []))
noncomputable def r12_1195 (P : Params) : Obj := (.mk (.type "dict") .none (.dict (Array.mk [(.mk (KH P n119) (.str n119 (nat_lit 3462)) (.str n126 (nat_lit 3380))), (.mk (KH P n121) (.str n121 (nat_lit 3466)) (.int (.ofNat (nat_lit 413)) (nat_lit 3465))), (.mk (KH P n122) (.str n122 (nat_lit 3468)) (.str n135 (nat_lit 3467))), (.mk (KH P n123) (.str n123 (nat_lit 3469)) (.ref (nat_lit 1194))), (.mk (KH P n124) (.str n124 (nat_lit 3471)) (.ref (nat_lit 1197))), (.mk (KH P n125) (.str n125 (nat_lit 3473)) (.ref (nat_lit 1198))), (.mk (KH P n43) (.str n43 (nat_lit 3474)) .none)]) (nat_lit 4)) (Array.mk []))
noncomputable def r12_1196 (P : Params) : Obj := (.mk (.type "type") .none (.cls (.mk n135 [(.type "object")] [(.ref (nat_lit 1196)), (.type "object")] (nat_lit 1195) n135 true [] [] false .none false)) (Array.mk [(.some (.ref (nat_lit 1187))), .none, (.some (.str n135 (nat_lit 3455))), (.some (.str n135 (nat_lit 3463))), (.some (.builtin "object.__new__")), (.some (.bool true))]))
noncomputable def r12_1197 (P : Params) : Obj := (.mk (.type "getset_descriptor") .none (.fields (Array.mk [(.str n124 (nat_lit 3470)), (.ref (nat_lit 1196)), (.builtin "function.__dict__"), (.builtin "function.__dict__#set")])) (Array.mk []))
noncomputable def r12_1198 (P : Params) : Obj := (.mk (.type "getset_descriptor") .none (.fields (Array.mk [(.str n125 (nat_lit 3472)), (.ref (nat_lit 1196)), (.builtin "ExceptionGroup.__weakref__"), .none])) (Array.mk []))
noncomputable def r12_1199 (P : Params) : Obj := (.mk (.type "super") .none (.fields (Array.mk [(.ref (nat_lit 1196)), (.ref (nat_lit 1196)), (.ref (nat_lit 1196))])) (Array.mk []))
noncomputable def r12_1200 (P : Params) : Obj := (.mk (.type "builtin_function_or_method") .none (.fields (Array.mk [(.builtin "object.__init_subclass__"), (.ref (nat_lit 1196))])) (Array.mk []))
noncomputable def r12_1201 (P : Params) : Obj := (.mk (.type "tuple") .none (.seq (Array.mk [(.int (.ofNat (nat_lit 0)) (nat_lit 3481)), (.int (.ofNat (nat_lit 3)) (nat_lit 3482))]) (nat_lit 0)) (Array.mk []))
noncomputable def r12_1202 (P : Params) : Obj := (.mk (.type "tuple") .none (.seq (Array.mk [(.int (.ofNat (nat_lit 5)) (nat_lit 3483)), (.int (.ofNat (nat_lit 1)) (nat_lit 3484))]) (nat_lit 0)) (Array.mk []))
noncomputable def r12_1203 (P : Params) : Obj := (.mk (.type "tuple") .none (.seq (Array.mk [(.int (.ofNat (nat_lit 5)) (nat_lit 3485)), (.int (.ofNat (nat_lit 3)) (nat_lit 3486))]) (nat_lit 0)) (Array.mk []))
noncomputable def r12_1204 (P : Params) : Obj := (.mk (.type "tuple") .none (.seq (Array.mk [(.int (.ofNat (nat_lit 1)) (nat_lit 3487)), (.int (.ofNat (nat_lit 2)) (nat_lit 3488))]) (nat_lit 0)) (Array.mk []))
noncomputable def r12_1205 (P : Params) : Obj := (.mk (.type "tuple") .none (.seq (Array.mk [(.int (.ofNat (nat_lit 5)) (nat_lit 3489)), (.int (.ofNat (nat_lit 1)) (nat_lit 3490))]) (nat_lit 0)) (Array.mk []))
noncomputable def r12_1206 (P : Params) : Obj := (.mk (.type "tuple") .none (.seq (Array.mk [(.int (.ofNat (nat_lit 5)) (nat_lit 3491)), (.int (.ofNat (nat_lit 3)) (nat_lit 3492))]) (nat_lit 0)) (Array.mk []))
noncomputable def r12_1207 (P : Params) : Obj := (.mk (.type "tuple") .none (.seq (Array.mk [(.int (.ofNat (nat_lit 1)) (nat_lit 3493)), (.int (.ofNat (nat_lit 3)) (nat_lit 3494))]) (nat_lit 0)) (Array.mk []))
noncomputable def r12_1208 (P : Params) : Obj := (.mk (.type "tuple") .none (.seq (Array.mk [(.int (.ofNat (nat_lit 4)) (nat_lit 3495)), (.int (.ofNat (nat_lit 1)) (nat_lit 3496))]) (nat_lit 0)) (Array.mk []))
noncomputable def r12_1209 (P : Params) : Obj := (.mk (.type "tuple") .none (.seq (Array.mk [(.int (.ofNat (nat_lit 5)) (nat_lit 3497)), (.int (.ofNat (nat_lit 3)) (nat_lit 3498))]) (nat_lit 0)) (Array.mk []))
noncomputable def r12_1210 (P : Params) : Obj := (.mk (.type "tuple") .none (.seq (Array.mk [(.int (.ofNat (nat_lit 1)) (nat_lit 3499)), (.int (.ofNat (nat_lit 3)) (nat_lit 3500))]) (nat_lit 0)) (Array.mk []))
noncomputable def r12_1211 (P : Params) : Obj := (.mk (.type "tuple") .none (.seq (Array.mk [(.int (.ofNat (nat_lit 5)) (nat_lit 3501)), (.int (.ofNat (nat_lit 0)) (nat_lit 3502))]) (nat_lit 0)) (Array.mk []))
noncomputable def r12_1212 (P : Params) : Obj := (.mk (.type "tuple") .none (.seq (Array.mk [(.int (.ofNat (nat_lit 5)) (nat_lit 3503)), (.int (.ofNat (nat_lit 3)) (nat_lit 3504))]) (nat_lit 0)) (Array.mk []))
noncomputable def r12_1213 (P : Params) : Obj := (.mk (.type "tuple") .none (.seq (Array.mk [(.int (.ofNat (nat_lit 1)) (nat_lit 3505)), (.int (.ofNat (nat_lit 3)) (nat_lit 3506))]) (nat_lit 0)) (Array.mk []))
noncomputable def r12_1214 (P : Params) : Obj := (.mk (.type "tuple") .none (.seq (Array.mk [(.int (.ofNat (nat_lit 5)) (nat_lit 3507)), (.int (.ofNat (nat_lit 1)) (nat_lit 3508))]) (nat_lit 0)) (Array.mk []))
noncomputable def r12_1215 (P : Params) : Obj := (.mk (.type "tuple") .none (.seq (Array.mk [(.int (.ofNat (nat_lit 4)) (nat_lit 3509)), (.int (.ofNat (nat_lit 3)) (nat_lit 3510))]) (nat_lit 0)) (Array.mk []))
noncomputable def r12_1216 (P : Params) : Obj := (.mk (.type "tuple") .none (.seq (Array.mk [(.int (.ofNat (nat_lit 1)) (nat_lit 3511)), (.int (.ofNat (nat_lit 3)) (nat_lit 3512))]) (nat_lit 0)) (Array.mk []))
noncomputable def r12_1217 (P : Params) : Obj := (.mk (.type "tuple") .none (.seq (Array.mk [(.int (.ofNat (nat_lit 5)) (nat_lit 3513)), (.int (.ofNat (nat_lit 1)) (nat_lit 3514))]) (nat_lit 0)) (Array.mk []))
noncomputable def r12_1218 (P : Params) : Obj := (.mk (.type "tuple") .none (.seq (Array.mk [(.int (.ofNat (nat_lit 5)) (nat_lit 3515)), (.int (.ofNat (nat_lit 2)) (nat_lit 3516))]) (nat_lit 0)) (Array.mk []))
noncomputable def r12_1219 (P : Params) : Obj := (.mk (.type "tuple") .none (.seq (Array.mk [(.int (.ofNat (nat_lit 1)) (nat_lit 3517)), (.int (.ofNat (nat_lit 3)) (nat_lit 3518))]) (nat_lit 0)) (Array.mk []))
noncomputable def r12_1220 (P : Params) : Obj := (.mk (.type "tuple") .none (.seq (Array.mk [(.int (.ofNat (nat_lit 5)) (nat_lit 3519)), (.int (.ofNat (nat_lit 1)) (nat_lit 3520))]) (nat_lit 0)) (Array.mk []))
noncomputable def r12_1221 (P : Params) : Obj := (.mk (.type "tuple") .none (.seq (Array.mk [(.int (.ofNat (nat_lit 5)) (nat_lit 3521)), (.int (.ofNat (nat_lit 3)) (nat_lit 3522))]) (nat_lit 0)) (Array.mk []))
noncomputable def r12_1222 (P : Params) : Obj := (.mk (.type "tuple") .none (.seq (Array.mk [(.ref (nat_lit 1201)), (.ref (nat_lit 1202)), (.ref (nat_lit 1203)), (.ref (nat_lit 1204)), (.ref (nat_lit 1205)), (.ref (nat_lit 1206)), (.ref (nat_lit 1207)), (.ref (nat_lit 1208)), (.ref (nat_lit 1209)), (.ref (nat_lit 1210)), (.ref (nat_lit 1211)), (.ref (nat_lit 1212)), (.ref (nat_lit 1213)), (.ref (nat_lit 1214)), (.ref (nat_lit 1215)), (.ref (nat_lit 1216)), (.ref (nat_lit 1217)), (.ref (nat_lit 1218)), (.ref (nat_lit 1219)), (.ref (nat_lit 1220)), (.ref (nat_lit 1221))]) (nat_lit 0)) (Array.mk []))
noncomputable def r12T (P : Params) : BT := (BT.ins (BT.ins (BT.ins (BT.ins (BT.ins (BT.ins (BT.ins (BT.ins (BT.ins (BT.ins (BT.ins (BT.ins (BT.ins (BT.ins (BT.ins (BT.ins (BT.ins (BT.ins (BT.ins (BT.ins (BT.ins (BT.ins (BT.ins (BT.ins (BT.ins (BT.ins (BT.ins (BT.ins (BT.ins (BT.ins (BT.ins (BT.ins (BT.ins (BT.ins (BT.ins (BT.ins (BT.ins (BT.ins (r11T P) (nat_lit 3) (r12_3 P)) (nat_lit 12) (r12_12 P)) (nat_lit 1187) (r12_1187 P)) (nat_lit 1188) (r12_1188 P)) (nat_lit 1189) (r12_1189 P)) (nat_lit 1190) (r12_1190 P)) (nat_lit 1191) (r12_1191 P)) (nat_lit 1192) (r12_1192 P)) (nat_lit 1193) (r12_1193 P)) (nat_lit 1194) (r12_1194 P)) (nat_lit 1195) (r12_1195 P)) (nat_lit 1196) (r12_1196 P)) (nat_lit 1197) (r12_1197 P)) (nat_lit 1198) (r12_1198 P)) (nat_lit 1199) (r12_1199 P)) (nat_lit 1200) (r12_1200 P)) (nat_lit 1201) (r12_1201 P)) (nat_lit 1202) (r12_1202 P)) (nat_lit 1203) (r12_1203 P)) (nat_lit 1204) (r12_1204 P)) (nat_lit 1205) (r12_1205 P)) (nat_lit 1206) (r12_1206 P)) (nat_lit 1207) (r12_1207 P)) (nat_lit 1208) (r12_1208 P)) (nat_lit 1209) (r12_1209 P)) (nat_lit 1210) (r12_1210 P)) (nat_lit 1211) (r12_1211 P)) (nat_lit 1212) (r12_1212 P)) (nat_lit 1213) (r12_1213 P)) (nat_lit 1214) (r12_1214 P)) (nat_lit 1215) (r12_1215 P)) (nat_lit 1216) (r12_1216 P)) (nat_lit 1217) (r12_1217 P)) (nat_lit 1218) (r12_1218 P)) (nat_lit 1219) (r12_1219 P)) (nat_lit 1220) (r12_1220 P)) (nat_lit 1221) (r12_1221 P)) (nat_lit 1222) (r12_1222 P))
noncomputable def r12S (w : World) (os : OsState) : SharedT := ⟨r12T w.params, nat_lit 1223, {}, Array.mk [.finished, .finished], {}, nat_lit 3524, os⟩
noncomputable def rE13 (P : Params) : Array DictEntry := (Array.push (Array.push (Array.push (rE12 P) (.mk (KH P n138) (.str n138 (nat_lit 3556)) (.ref (nat_lit 1223)))) (.mk (KH P n139) (.str n139 (nat_lit 3621)) (.ref (nat_lit 1224)))) (.mk (KH P n140) (.str n140 (nat_lit 3628)) (.ref (nat_lit 1230))))
noncomputable def r13_3 (P : Params) : Obj := ⟨(.type "dict"), .none, .dict (rE13 P) (nat_lit 61), (Array.mk [])⟩
noncomputable def r13_12 (P : Params) : Obj := (.mk .none .none (.fields (Array.mk [(.int (.ofNat (nat_lit 1)) (nat_lit 0)), (.int (.ofNat (nat_lit 0)) (nat_lit 0)), (.ref (nat_lit 20)), (.int (.ofNat (nat_lit 5)) (nat_lit 0)), (.int (.ofNat (nat_lit 0)) (nat_lit 0)), (.ref (nat_lit 27)), (.int (.ofNat (nat_lit 9)) (nat_lit 0)), (.int (.ofNat (nat_lit 0)) (nat_lit 0)), (.ref (nat_lit 34)), (.int (.ofNat (nat_lit 11)) (nat_lit 0)), (.int (.ofNat (nat_lit 0)) (nat_lit 0)), (.ref (nat_lit 47)), (.int (.ofNat (nat_lit 13)) (nat_lit 0)), (.int (.ofNat (nat_lit 0)) (nat_lit 0)), (.ref (nat_lit 54)), (.int (.ofNat (nat_lit 15)) (nat_lit 0)), (.int (.ofNat (nat_lit 0)) (nat_lit 0)), (.ref (nat_lit 61)), (.int (.ofNat (nat_lit 17)) (nat_lit 0)), (.int (.ofNat (nat_lit 0)) (nat_lit 0)), (.ref (nat_lit 69)), (.int (.ofNat (nat_lit 24)) (nat_lit 0)), (.int (.ofNat (nat_lit 0)) (nat_lit 0)), (.ref (nat_lit 76)), (.int (.ofNat (nat_lit 30)) (nat_lit 0)), (.int (.ofNat (nat_lit 0)) (nat_lit 0)), (.ref (nat_lit 84)), (.int (.ofNat (nat_lit 34)) (nat_lit 0)), (.int (.ofNat (nat_lit 0)) (nat_lit 0)), (.ref (nat_lit 91)), (.int (.ofNat (nat_lit 270)) (nat_lit 0)), (.int (.ofNat (nat_lit 0)) (nat_lit 0)), (.ref (nat_lit 298)), (.int (.ofNat (nat_lit 285)) (nat_lit 0)), (.int (.ofNat (nat_lit 0)) (nat_lit 0)), (.ref (nat_lit 1092)), (.int (.ofNat (nat_lit 291)) (nat_lit 0)), (.int (.ofNat (nat_lit 0)) (nat_lit 0)), (.ref (nat_lit 1100)), (.int (.ofNat (nat_lit 334)) (nat_lit 0)), (.int (.ofNat (nat_lit 0)) (nat_lit 0)), (.ref (nat_lit 1107)), (.int (.ofNat (nat_lit 336)) (nat_lit 0)), (.int (.ofNat (nat_lit 0)) (nat_lit 0)), (.ref (nat_lit 1114)), (.int (.ofNat (nat_lit 347)) (nat_lit 0)), (.int (.ofNat (nat_lit 0)) (nat_lit 0)), (.ref (nat_lit 1121)), (.int (.ofNat (nat_lit 357)) (nat_lit 0)), (.int (.ofNat (nat_lit 0)) (nat_lit 0)), (.ref (nat_lit 1128)), (.int (.ofNat (nat_lit 367)) (nat_lit 0)), (.int (.ofNat (nat_lit 0)) (nat_lit 0)), (.ref (nat_lit 1135)), (.int (.ofNat (nat_lit 369)) (nat_lit 0)), (.int (.ofNat (nat_lit 0)) (nat_lit 0)), (.ref (nat_lit 1149)), (.int (.ofNat (nat_lit 377)) (nat_lit 0)), (.int (.ofNat (nat_lit 0)) (nat_lit 0)), (.ref (nat_lit 1185)), (.int (.ofNat (nat_lit 413)) (nat_lit 0)), (.int (.ofNat (nat_lit 0)) (nat_lit 0)), (.ref (nat_lit 1192)), (.int (.ofNat (nat_lit 420)) (nat_lit 0)), (.int (.ofNat (nat_lit 0)) (nat_lit 0)), (.ref (nat_lit 1229))])) (Array.mk []))
noncomputable def r13_1223 (P : Params) : Obj := (.mk (.type "tuple") .none (.seq (Array.mk [(.int (.ofNat (nat_lit 20)) (nat_lit 3524)), (.int (.ofNat (nat_lit 10)) (nat_lit 3525)), (.int (.ofNat (nat_lit 0)) (nat_lit 3526)), (.int (.ofNat (nat_lit 11)) (nat_lit 3527)), (.int (.ofNat (nat_lit 1)) (nat_lit 3528)), (.int (.ofNat (nat_lit 21)) (nat_lit 3529)), (.int (.ofNat (nat_lit 2)) (nat_lit 3530)), (.int (.ofNat (nat_lit 22)) (nat_lit 3531)), (.int (.ofNat (nat_lit 12)) (nat_lit 3532)), (.int (.ofNat (nat_lit 23)) (nat_lit 3533)), (.int (.ofNat (nat_lit 13)) (nat_lit 3534)), (.int (.ofNat (nat_lit 3)) (nat_lit 3535)), (.int (.ofNat (nat_lit 14)) (nat_lit 3536)), (.int (.ofNat (nat_lit 4)) (nat_lit 3537)), (.int (.ofNat (nat_lit 24)) (nat_lit 3538)), (.int (.ofNat (nat_lit 5)) (nat_lit 3539)), (.int (.ofNat (nat_lit 25)) (nat_lit 3540)), (.int (.ofNat (nat_lit 15)) (nat_lit 3541)), (.int (.ofNat (nat_lit 26)) (nat_lit 3542)), (.int (.ofNat (nat_lit 16)) (nat_lit 3543)), (.int (.ofNat (nat_lit 6)) (nat_lit 3544)), (.int (.ofNat (nat_lit 17)) (nat_lit 3545)), (.int (.ofNat (nat_lit 7)) (nat_lit 3546)), (.int (.ofNat (nat_lit 27)) (nat_lit 3547)), (.int (.ofNat (nat_lit 8)) (nat_lit 3548)), (.int (.ofNat (nat_lit 28)) (nat_lit 3549)), (.int (.ofNat (nat_lit 18)) (nat_lit 3550)), (.int (.ofNat (nat_lit 29)) (nat_lit 3551)), (.int (.ofNat (nat_lit 19)) (nat_lit 3552)), (.int (.ofNat (nat_lit 9)) (nat_lit 3553)), (.int (.ofNat (nat_lit 30)) (nat_lit 3554)), (.int (.ofNat (nat_lit 31)) (nat_lit 3555))]) (nat_lit 0)) (Array.mk []))
noncomputable def r13_1224 (P : Params) : Obj := (.mk (.type "tuple") .none (.seq (Array.mk [(.int (.ofNat (nat_lit 42)) (nat_lit 3557)), (.int (.ofNat (nat_lit 21)) (nat_lit 3558)), (.int (.ofNat (nat_lit 0)) (nat_lit 3559)), (.int (.ofNat (nat_lit 1)) (nat_lit 3560)), (.int (.ofNat (nat_lit 43)) (nat_lit 3561)), (.int (.ofNat (nat_lit 22)) (nat_lit 3562)), (.int (.ofNat (nat_lit 23)) (nat_lit 3563)), (.int (.ofNat (nat_lit 2)) (nat_lit 3564)), (.int (.ofNat (nat_lit 44)) (nat_lit 3565)), (.int (.ofNat (nat_lit 45)) (nat_lit 3566)), (.int (.ofNat (nat_lit 24)) (nat_lit 3567)), (.int (.ofNat (nat_lit 3)) (nat_lit 3568)), (.int (.ofNat (nat_lit 4)) (nat_lit 3569)), (.int (.ofNat (nat_lit 46)) (nat_lit 3570)), (.int (.ofNat (nat_lit 25)) (nat_lit 3571)), (.int (.ofNat (nat_lit 26)) (nat_lit 3572)), (.int (.ofNat (nat_lit 5)) (nat_lit 3573)), (.int (.ofNat (nat_lit 47)) (nat_lit 3574)), (.int (.ofNat (nat_lit 48)) (nat_lit 3575)), (.int (.ofNat (nat_lit 27)) (nat_lit 3576)), (.int (.ofNat (nat_lit 6)) (nat_lit 3577)), (.int (.ofNat (nat_lit 7)) (nat_lit 3578)), (.int (.ofNat (nat_lit 49)) (nat_lit 3579)), (.int (.ofNat (nat_lit 28)) (nat_lit 3580)), (.int (.ofNat (nat_lit 29)) (nat_lit 3581)), (.int (.ofNat (nat_lit 8)) (nat_lit 3582)), (.int (.ofNat (nat_lit 50)) (nat_lit 3583)), (.int (.ofNat (nat_lit 51)) (nat_lit 3584)), (.int (.ofNat (nat_lit 30)) (nat_lit 3585)), (.int (.ofNat (nat_lit 9)) (nat_lit 3586)), (.int (.ofNat (nat_lit 10)) (nat_lit 3587)), (.int (.ofNat (nat_lit 52)) (nat_lit 3588)), (.int (.ofNat (nat_lit 31)) (nat_lit 3589)), (.int (.ofNat (nat_lit 32)) (nat_lit 3590)), (.int (.ofNat (nat_lit 11)) (nat_lit 3591)), (.int (.ofNat (nat_lit 53)) (nat_lit 3592)), (.int (.ofNat (nat_lit 54)) (nat_lit 3593)), (.int (.ofNat (nat_lit 33)) (nat_lit 3594)), (.int (.ofNat (nat_lit 12)) (nat_lit 3595)), (.int (.ofNat (nat_lit 13)) (nat_lit 3596)), (.int (.ofNat (nat_lit 55)) (nat_lit 3597)), (.int (.ofNat (nat_lit 34)) (nat_lit 3598)), (.int (.ofNat (nat_lit 35)) (nat_lit 3599)), (.int (.ofNat (nat_lit 14)) (nat_lit 3600)), (.int (.ofNat (nat_lit 56)) (nat_lit 3601)), (.int (.ofNat (nat_lit 57)) (nat_lit 3602)), (.int (.ofNat (nat_lit 36)) (nat_lit 3603)), (.int (.ofNat (nat_lit 15)) (nat_lit 3604)), (.int (.ofNat (nat_lit 16)) (nat_lit 3605)), (.int (.ofNat (nat_lit 58)) (nat_lit 3606)), (.int (.ofNat (nat_lit 37)) (nat_lit 3607)), (.int (.ofNat (nat_lit 38)) (nat_lit 3608)), (.int (.ofNat (nat_lit 17)) (nat_lit 3609)), (.int (.ofNat (nat_lit 59)) (nat_lit 3610)), (.int (.ofNat (nat_lit 60)) (nat_lit 3611)), (.int (.ofNat (nat_lit 39)) (nat_lit 3612)), (.int (.ofNat (nat_lit 18)) (nat_lit 3613)), (.int (.ofNat (nat_lit 19)) (nat_lit 3614)), (.int (.ofNat (nat_lit 61)) (nat_lit 3615)), (.int (.ofNat (nat_lit 40)) (nat_lit 3616)), (.int (.ofNat (nat_lit 41)) (nat_lit 3617)), (.int (.ofNat (nat_lit 20)) (nat_lit 3618)), (.int (.ofNat (nat_lit 62)) (nat_lit 3619)), (.int (.ofNat (nat_lit 63)) (nat_lit 3620))]) (nat_lit 0)) (Array.mk []))
noncomputable def r13_1225 (P : Params) : Obj := (.mk (.type "tuple") .none (.seq (Array.mk [(.bool false), (.int (.ofNat (nat_lit 1000)) (nat_lit 3622))]) (nat_lit 0)) (Array.mk []))
noncomputable def r13_1226 (P : Params) : Obj := (.mk (.type "tuple") .none (.seq (Array.mk []) (nat_lit 0)) (Array.mk []))
noncomputable def r13_1227 (P : Params) : Obj := (.mk .none .none (.fields (Array.mk [])) (Array.mk []))
noncomputable def r13_1228 (P : Params) : Obj := (.mk .none .none (.func (.mk n140 n140 (fA (cel (nat_lit 58))) (.stmts (fB (cel (nat_lit 58)))) (fS (cel (nat_lit 58))) (nat_lit 0) [] .none .none .none .none .none .none .none (nat_lit 0))) (Array.mk []))
noncomputable def r13_1229 (P : Params) : Obj := (.mk (.type "code") .none (.fields (Array.mk [(.str n140 (nat_lit 3623)), (.str n140 (nat_lit 3624)), (.str n37 (nat_lit 3625)), (.int (.ofNat (nat_lit 420)) (nat_lit 0)), (.int (.ofNat (nat_lit 6)) (nat_lit 0)), (.int (.ofNat (nat_lit 0)) (nat_lit 0)), (.int (.ofNat (nat_lit 0)) (nat_lit 0)), (.int (.ofNat (nat_lit 3)) (nat_lit 0)), (.ref (nat_lit 1226)), (.bool true), (.int (.ofNat (nat_lit 181)) (nat_lit 0)), (.ref (nat_lit 1227)), .none, .none, .none, (.ref (nat_lit 1228)), (.int (.ofNat (nat_lit 3626)) (nat_lit 0)), (.int (.ofNat (nat_lit 420)) (nat_lit 0)), (.str n37 (nat_lit 3627))])) (Array.mk []))
noncomputable def r13_1230 (P : Params) : Obj := (.mk (.type "function") .none (.func (.mk n140 n140 (fA (cel (nat_lit 58))) (.stmts (fB (cel (nat_lit 58)))) (fS (cel (nat_lit 58))) (nat_lit 3) [] (.ref (nat_lit 1225)) .none .none (.str n134 (nat_lit 3477)) .none (.ref (nat_lit 1229)) .none (nat_lit 0))) (Array.mk []))
noncomputable def r13T (P : Params) : BT := (BT.ins (BT.ins (BT.ins (BT.ins (BT.ins (BT.ins (BT.ins (BT.ins (BT.ins (BT.ins (r12T P) (nat_lit 3) (r13_3 P)) (nat_lit 12) (r13_12 P)) (nat_lit 1223) (r13_1223 P)) (nat_lit 1224) (r13_1224 P)) (nat_lit 1225) (r13_1225 P)) (nat_lit 1226) (r13_1226 P)) (nat_lit 1227) (r13_1227 P)) (nat_lit 1228) (r13_1228 P)) (nat_lit 1229) (r13_1229 P)) (nat_lit 1230) (r13_1230 P))
noncomputable def r13S (w : World) (os : OsState) : SharedT := ⟨r13T w.params, nat_lit 1231, {}, Array.mk [.finished, .finished], {}, nat_lit 3629, os⟩
noncomputable def rE14 (P : Params) : Array DictEntry := (Array.push (rE13 P) (.mk (KH P n141) (.str n141 (nat_lit 3650)) (.ref (nat_lit 1240))))
noncomputable def r14_3 (P : Params) : Obj := ⟨(.type "dict"), .none, .dict (rE14 P) (nat_lit 62), (Array.mk [])⟩
noncomputable def r14_12 (P : Params) : Obj := (.mk .none .none (.fields (Array.mk [(.int (.ofNat (nat_lit 1)) (nat_lit 0)), (.int (.ofNat (nat_lit 0)) (nat_lit 0)), (.ref (nat_lit 20)), (.int (.ofNat (nat_lit 5)) (nat_lit 0)), (.int (.ofNat (nat_lit 0)) (nat_lit 0)), (.ref (nat_lit 27)), (.int (.ofNat (nat_lit 9)) (nat_lit 0)), (.int (.ofNat (nat_lit 0)) (nat_lit 0)), (.ref (nat_lit 34)), (.int (.ofNat (nat_lit 11)) (nat_lit 0)), (.int (.ofNat (nat_lit 0)) (nat_lit 0)), (.ref (nat_lit 47)), (.int (.ofNat (nat_lit 13)) (nat_lit 0)), (.int (.ofNat (nat_lit 0)) (nat_lit 0)), (.ref (nat_lit 54)), (.int (.ofNat (nat_lit 15)) (nat_lit 0)), (.int (.ofNat (nat_lit 0)) (nat_lit 0)), (.ref (nat_lit 61)), (.int (.ofNat (nat_lit 17)) (nat_lit 0)), (.int (.ofNat (nat_lit 0)) (nat_lit 0)), (.ref (nat_lit 69)), (.int (.ofNat (nat_lit 24)) (nat_lit 0)), (.int (.ofNat (nat_lit 0)) (nat_lit 0)), (.ref (nat_lit 76)), (.int (.ofNat (nat_lit 30)) (nat_lit 0)), (.int (.ofNat (nat_lit 0)) (nat_lit 0)), (.ref (nat_lit 84)), (.int (.ofNat (nat_lit 34)) (nat_lit 0)), (.int (.ofNat (nat_lit 0)) (nat_lit 0)), (.ref (nat_lit 91)), (.int (.ofNat (nat_lit 270)) (nat_lit 0)), (.int (.ofNat (nat_lit 0)) (nat_lit 0)), (.ref (nat_lit 298)), (.int (.ofNat (nat_lit 285)) (nat_lit 0)), (.int (.ofNat (nat_lit 0)) (nat_lit 0)), (.ref (nat_lit 1092)), (.int (.ofNat (nat_lit 291)) (nat_lit 0)), (.int (.ofNat (nat_lit 0)) (nat_lit 0)), (.ref (nat_lit 1100)), (.int (.ofNat (nat_lit 334)) (nat_lit 0)), (.int (.ofNat (nat_lit 0)) (nat_lit 0)), (.ref (nat_lit 1107)), (.int (.ofNat (nat_lit 336)) (nat_lit 0)), (.int (.ofNat (nat_lit 0)) (nat_lit 0)), (.ref (nat_lit 1114)), (.int (.ofNat (nat_lit 347)) (nat_lit 0)), (.int (.ofNat (nat_lit 0)) (nat_lit 0)), (.ref (nat_lit 1121)), (.int (.ofNat (nat_lit 357)) (nat_lit 0)), (.int (.ofNat (nat_lit 0)) (nat_lit 0)), (.ref (nat_lit 1128)), (.int (.ofNat (nat_lit 367)) (nat_lit 0)), (.int (.ofNat (nat_lit 0)) (nat_lit 0)), (.ref (nat_lit 1135)), (.int (.ofNat (nat_lit 369)) (nat_lit 0)), (.int (.ofNat (nat_lit 0)) (nat_lit 0)), (.ref (nat_lit 1149)), (.int (.ofNat (nat_lit 377)) (nat_lit 0)), (.int (.ofNat (nat_lit 0)) (nat_lit 0)), (.ref (nat_lit 1185)), (.int (.ofNat (nat_lit 413)) (nat_lit 0)), (.int (.ofNat (nat_lit 0)) (nat_lit 0)), (.ref (nat_lit 1192)), (.int (.ofNat (nat_lit 420)) (nat_lit 0)), (.int (.ofNat (nat_lit 0)) (nat_lit 0)), (.ref (nat_lit 1229)), (.int (.ofNat (nat_lit 475)) (nat_lit 0)), (.int (.ofNat (nat_lit 0)) (nat_lit 0)), (.ref (nat_lit 1236))])) (Array.mk []))
noncomputable def r14_1231 (P : Params) : Obj := (.mk (.type "tuple") .none (.seq (Array.mk [(.type "object")]) (nat_lit 0)) (Array.mk []))
noncomputable def r14_1232 (P : Params) : Obj := (.mk (.type "builtin_function_or_method") .none (.fields (Array.mk [(.builtin "type.__prepare__"), (.type "type")])) (Array.mk []))
noncomputable def r14_1233 (P : Params) : Obj := (.mk (.type "dict") .none (.dict (Array.mk [(.mk (KH P n119) (.str n119 (nat_lit 3636)) (.str n134 (nat_lit 3477))), (.mk (KH P n120) (.str n120 (nat_lit 3638)) (.str n141 (nat_lit 3637))), (.mk (KH P n121) (.str n121 (nat_lit 3640)) (.int (.ofNat (nat_lit 475)) (nat_lit 3639))), (.mk (KH P n122) (.str n122 (nat_lit 3642)) (.str n141 (nat_lit 3641))), (.mk (KH P n123) (.str n123 (nat_lit 3643)) (.ref (nat_lit 1238)))]) (nat_lit 5)) (Array.mk []))
noncomputable def r14_1234 (P : Params) : Obj := (.mk (.type "tuple") .none (.seq (Array.mk []) (nat_lit 0)) (Array.mk []))
noncomputable def r14_1235 (P : Params) : Obj := (.mk .none .none (.fields (Array.mk [])) (Array.mk []))
noncomputable def r14_1236 (P : Params) : Obj := (.mk (.type "code") .none (.fields (Array.mk [(.str n141 (nat_lit 3631)), (.str n141 (nat_lit 3632)), (.str n37 (nat_lit 3633)), (.int (.ofNat (nat_lit 475)) (nat_lit 0)), (.int (.ofNat (nat_lit 0)) (nat_lit 0)), (.int (.ofNat (nat_lit 0)) (nat_lit 0)), (.int (.ofNat (nat_lit 0)) (nat_lit 0)), (.int (.ofNat (nat_lit 0)) (nat_lit 0)), (.ref (nat_lit 1234)), (.bool false), (.int (.ofNat (nat_lit 181)) (nat_lit 0)), (.ref (nat_lit 1235)), .none, .none, .none, .none, (.int (.ofNat (nat_lit 3634)) (nat_lit 0)), (.int (.ofNat (nat_lit 475)) (nat_lit 0)), (.str n37 (nat_lit 3635))])) (Array.mk []))
noncomputable def r14_1237 (P : Params) : Obj := (.mk (.type "frame") .none .plain (Array.mk [(.some (.ref (nat_lit 1236))), (.some (.ref (nat_lit 3))), (.some (.ref (nat_lit 1233))), .none, (.some (.str n134 (nat_lit 3477))), .none, (.some (.ref (nat_lit 0)))]))
noncomputable def r14_1238 (P : Params) : Obj := (.mk (.type "tuple") .none (.seq (Array.mk []) (nat_lit 0)) (Array.mk []))
noncomputable def r14_1239 (P : Params) : Obj := (.mk (.type "dict") .none (.dict (Array.mk [(.mk (KH P n119) (.str n119 (nat_lit 3636)) (.str n134 (nat_lit 3477))), (.mk (KH P n121) (.str n121 (nat_lit 3640)) (.int (.ofNat (nat_lit 475)) (nat_lit 3639))), (.mk (KH P n122) (.str n122 (nat_lit 3642)) (.str n141 (nat_lit 3641))), (.mk (KH P n123) (.str n123 (nat_lit 3643)) (.ref (nat_lit 1238))), (.mk (KH P n124) (.str n124 (nat_lit 3645)) (.ref (nat_lit 1241))), (.mk (KH P n125) (.str n125 (nat_lit 3647)) (.ref (nat_lit 1242))), (.mk (KH P n43) (.str n43 (nat_lit 3648)) .none)]) (nat_lit 4)) (Array.mk []))
noncomputable def r14_1240 (P : Params) : Obj := (.mk (.type "type") .none (.cls (.mk n141 [(.type "object")] [(.ref (nat_lit 1240)), (.type "object")] (nat_lit 1239) n141 true [] [] false .none false)) (Array.mk [(.some (.ref (nat_lit 1231))), .none, (.some (.str n141 (nat_lit 3629))), (.some (.str n141 (nat_lit 3637))), (.some (.builtin "object.__new__")), (.some (.bool true))]))
noncomputable def r14_1241 (P : Params) : Obj := (.mk (.type "getset_descriptor") .none (.fields (Array.mk [(.str n124 (nat_lit 3644)), (.ref (nat_lit 1240)), (.builtin "function.__dict__"), (.builtin "function.__dict__#set")])) (Array.mk []))
noncomputable def r14_1242 (P : Params) : Obj := (.mk (.type "getset_descriptor") .none (.fields (Array.mk [(.str n125 (nat_lit 3646)), (.ref (nat_lit 1240)), (.builtin "ExceptionGroup.__weakref__"), .none])) (Array.mk []))
noncomputable def r14_1243 (P : Params) : Obj := (.mk (.type "super") .none (.fields (Array.mk [(.ref (nat_lit 1240)), (.ref (nat_lit 1240)), (.ref (nat_lit 1240))])) (Array.mk []))
noncomputable def r14_1244 (P : Params) : Obj := (.mk (.type "builtin_function_or_method") .none (.fields (Array.mk [(.builtin "object.__init_subclass__"), (.ref (nat_lit 1240))])) (Array.mk []))
noncomputable def r14T (P : Params) : BT := (BT.ins (BT.ins (BT.ins (BT.ins (BT.ins (BT.ins (BT.ins (BT.ins (BT.ins (BT.ins (BT.ins (BT.ins (BT.ins (BT.ins (BT.ins (BT.ins (r13T P) (nat_lit 3) (r14_3 P)) (nat_lit 12) (r14_12 P)) (nat_lit 1231) (r14_1231 P)) (nat_lit 1232) (r14_1232 P)) (nat_lit 1233) (r14_1233 P)) (nat_lit 1234) (r14_1234 P)) (nat_lit 1235) (r14_1235 P)) (nat_lit 1236) (r14_1236 P)) (nat_lit 1237) (r14_1237 P)) (nat_lit 1238) (r14_1238 P)) (nat_lit 1239) (r14_1239 P)) (nat_lit 1240) (r14_1240 P)) (nat_lit 1241) (r14_1241 P)) (nat_lit 1242) (r14_1242 P)) (nat_lit 1243) (r14_1243 P)) (nat_lit 1244) (r14_1244 P))
noncomputable def r14S (w : World) (os : OsState) : SharedT := ⟨r14T w.params, nat_lit 1245, {}, Array.mk [.finished, .finished], {}, nat_lit 3651, os⟩
noncomputable def rE15 (P : Params) : Array DictEntry := Array.mk [(.mk (KH P n41) (.str n41 (nat_lit 165)) (.str n142 (nat_lit 3673))), (.mk (KH P n43) (.str n43 (nat_lit 166)) .none), (.mk (KH P n44) (.str n44 (nat_lit 167)) .none), (.mk (KH P n45) (.str n45 (nat_lit 168)) (.builtin "__main__.__loader__#opaque")), (.mk (KH P n46) (.str n46 (nat_lit 169)) .none), (.mk (KH P n47) (.str n47 (nat_lit 170)) (.ref (nat_lit 6))), (.mk (KH P n48) (.str n48 (nat_lit 171)) (.ref (nat_lit 4))), (.mk (KH P n49) (.str n49 (nat_lit 173)) (.str n37 (nat_lit 172))), (.mk (KH P n50) (.str n50 (nat_lit 174)) .none), (.mk (KH P n51) (.str n51 (nat_lit 193)) (.ref (nat_lit 21))), (.mk (KH P n52) (.str n52 (nat_lit 204)) (.ref (nat_lit 28))), (.mk (KH P n53) (.str n53 (nat_lit 224)) (.ref (nat_lit 38))), (.mk (KH P n54) (.str n54 (nat_lit 231)) (.ref (nat_lit 48))), (.mk (KH P n55) (.str n55 (nat_lit 240)) (.ref (nat_lit 55))), (.mk (KH P n6) (.str n6 (nat_lit 248)) (.ref (nat_lit 62))), (.mk (KH P n56) (.str n56 (nat_lit 256)) (.ref (nat_lit 70))), (.mk (KH P n57) (.str n57 (nat_lit 259)) (.bool true)), (.mk (KH P n2) (.str n2 (nat_lit 260)) (.type "str")), (.mk (KH P n58) (.str n58 (nat_lit 261)) (.type "bytes")), (.mk (KH P n59) (.str n59 (nat_lit 262)) (.type "bytes")), (.mk (KH P n60) (.str n60 (nat_lit 269)) (.ref (nat_lit 77))), (.mk (KH P n61) (.str n61 (nat_lit 270)) (.ref (nat_lit 78))), (.mk (KH P n62) (.str n62 (nat_lit 271)) (.type "range")), (.mk (KH P n63) (.str n63 (nat_lit 272)) (.type "map")), (.mk (KH P n64) (.str n64 (nat_lit 279)) (.ref (nat_lit 85))), (.mk (KH P n32) (.str n32 (nat_lit 283)) (.str n34 (nat_lit 282))), (.mk (KH P n65) (.str n65 (nat_lit 581)) (.ref (nat_lit 288))), (.mk (KH P n31) (.str n31 (nat_lit 598)) (.ref (nat_lit 302))), (.mk (KH P n30) (.str n30 (nat_lit 1087)) (.ref (nat_lit 306))), (.mk (KH P n66) (.str n66 (nat_lit 1571)) (.ref (nat_lit 651))), (.mk (KH P n68) (.str n68 (nat_lit 1575)) (.int (.ofNat (nat_lit 16777215)) (nat_lit 1574))), (.mk (KH P n69) (.str n69 (nat_lit 1577)) (.int (.ofNat (nat_lit 18446744073709551615)) (nat_lit 1576))), (.mk (KH P n70) (.str n70 (nat_lit 1579)) (.int (.ofNat (nat_lit 18229723555245850623)) (nat_lit 1578))), (.mk (KH P n71) (.str n71 (nat_lit 1836)) (.ref (nat_lit 1008))), (.mk (KH P n72) (.str n72 (nat_lit 2093)) (.ref (nat_lit 1025))), (.mk (KH P n73) (.str n73 (nat_lit 2350)) (.ref (nat_lit 1042))), (.mk (KH P n74) (.str n74 (nat_lit 2351)) (.ref (nat_lit 1051))), (.mk (KH P n75) (.str n75 (nat_lit 2480)) (.ref (nat_lit 1060))), (.mk (KH P n76) (.str n76 (nat_lit 2993)) (.ref (nat_lit 1069))), (.mk (KH P n77) (.str n77 (nat_lit 3250)) (.ref (nat_lit 1086))), (.mk (KH P n78) (.str n78 (nat_lit 3260)) (.ref (nat_lit 1093))), (.mk (KH P n84) (.str n84 (nat_lit 3289)) (.ref (nat_lit 1101))), (.mk (KH P n85) (.str n85 (nat_lit 3293)) (.bytes (Array.mk [0]) (nat_lit 3292))), (.mk (KH P n86) (.str n86 (nat_lit 3300)) (.ref (nat_lit 1108))), (.mk (KH P n87) (.str n87 (nat_lit 3311)) (.ref (nat_lit 1115))), (.mk (KH P n88) (.str n88 (nat_lit 3323)) (.ref (nat_lit 1122))), (.mk (KH P n89) (.str n89 (nat_lit 3335)) (.ref (nat_lit 1129))), (.mk (KH P n118) (.str n118 (nat_lit 3357)) (.ref (nat_lit 1139))), (.mk (KH P n127) (.str n127 (nat_lit 3379)) (.ref (nat_lit 1153))), (.mk (KH P n128) (.str n128 (nat_lit 3383)) (.bytes (Array.mk [0]) (nat_lit 3382))), (.mk (KH P n129) (.str n129 (nat_lit 3385)) (.bytes (Array.mk [36, 49, 36]) (nat_lit 3384))), (.mk (KH P n130) (.str n130 (nat_lit 3387)) (.bytes (Array.mk [36, 97, 112, 114, 49, 36]) (nat_lit 3386))), (.mk (KH P n131) (.str n131 (nat_lit 3430)) (.ref (nat_lit 1179))), (.mk (KH P n132) (.str n132 (nat_lit 3447)) (.ref (nat_lit 1180))), (.mk (KH P n133) (.str n133 (nat_lit 3454)) (.ref (nat_lit 1186))), (.mk (KH P n135) (.str n135 (nat_lit 3476)) (.ref (nat_lit 1196))), (.mk (KH P n136) (.str n136 (nat_lit 3480)) (.bytes (Array.mk [0]) (nat_lit 3479))), (.mk (KH P n137) (.str n137 (nat_lit 3523)) (.ref (nat_lit 1222))), (.mk (KH P n138) (.str n138 (nat_lit 3556)) (.ref (nat_lit 1223))), (.mk (KH P n139) (.str n139 (nat_lit 3621)) (.ref (nat_lit 1224))), (.mk (KH P n140) (.str n140 (nat_lit 3628)) (.ref (nat_lit 1230))), (.mk (KH P n141) (.str n141 (nat_lit 3650)) (.ref (nat_lit 1240))), (.mk (KH P n143) (.str n143 (nat_lit 3672)) (.ref (nat_lit 1254))), (.mk (KH P n144) (.str n144 (nat_lit 3682)) (.ref (nat_lit 1265))), (.mk (KH P n145) (.str n145 (nat_lit 3690)) (.ref (nat_lit 1273))), (.mk (KH P n146) (.str n146 (nat_lit 3700)) (.ref (nat_lit 1280)))]
noncomputable def r15_3 (P : Params) : Obj := ⟨(.type "dict"), .none, .dict (rE15 P) (nat_lit 66), (Array.mk [])⟩
noncomputable def r15_12 (P : Params) : Obj := (.mk .none .none (.fields (Array.mk [(.int (.ofNat (nat_lit 1)) (nat_lit 0)), (.int (.ofNat (nat_lit 0)) (nat_lit 0)), (.ref (nat_lit 20)), (.int (.ofNat (nat_lit 5)) (nat_lit 0)), (.int (.ofNat (nat_lit 0)) (nat_lit 0)), (.ref (nat_lit 27)), (.int (.ofNat (nat_lit 9)) (nat_lit 0)), (.int (.ofNat (nat_lit 0)) (nat_lit 0)), (.ref (nat_lit 34)), (.int (.ofNat (nat_lit 11)) (nat_lit 0)), (.int (.ofNat (nat_lit 0)) (nat_lit 0)), (.ref (nat_lit 47)), (.int (.ofNat (nat_lit 13)) (nat_lit 0)), (.int (.ofNat (nat_lit 0)) (nat_lit 0)), (.ref (nat_lit 54)), (.int (.ofNat (nat_lit 15)) (nat_lit 0)), (.int (.ofNat (nat_lit 0)) (nat_lit 0)), (.ref (nat_lit 61)), (.int (.ofNat (nat_lit 17)) (nat_lit 0)), (.int (.ofNat (nat_lit 0)) (nat_lit 0)), (.ref (nat_lit 69)), (.int (.ofNat (nat_lit 24)) (nat_lit 0)), (.int (.ofNat (nat_lit 0)) (nat_lit 0)), (.ref (nat_lit 76)), (.int (.ofNat (nat_lit 30)) (nat_lit 0)), (.int (.ofNat (nat_lit 0)) (nat_lit 0)), (.ref (nat_lit 84)), (.int (.ofNat (nat_lit 34)) (nat_lit 0)), (.int (.ofNat (nat_lit 0)) (nat_lit 0)), (.ref (nat_lit 91)), (.int (.ofNat (nat_lit 270)) (nat_lit 0)), (.int (.ofNat (nat_lit 0)) (nat_lit 0)), (.ref (nat_lit 298)), (.int (.ofNat (nat_lit 285)) (nat_lit 0)), (.int (.ofNat (nat_lit 0)) (nat_lit 0)), (.ref (nat_lit 1092)), (.int (.ofNat (nat_lit 291)) (nat_lit 0)), (.int (.ofNat (nat_lit 0)) (nat_lit 0)), (.ref (nat_lit 1100)), (.int (.ofNat (nat_lit 334)) (nat_lit 0)), (.int (.ofNat (nat_lit 0)) (nat_lit 0)), (.ref (nat_lit 1107)), (.int (.ofNat (nat_lit 336)) (nat_lit 0)), (.int (.ofNat (nat_lit 0)) (nat_lit 0)), (.ref (nat_lit 1114)), (.int (.ofNat (nat_lit 347)) (nat_lit 0)), (.int (.ofNat (nat_lit 0)) (nat_lit 0)), (.ref (nat_lit 1121)), (.int (.ofNat (nat_lit 357)) (nat_lit 0)), (.int (.ofNat (nat_lit 0)) (nat_lit 0)), (.ref (nat_lit 1128)), (.int (.ofNat (nat_lit 367)) (nat_lit 0)), (.int (.ofNat (nat_lit 0)) (nat_lit 0)), (.ref (nat_lit 1135)), (.int (.ofNat (nat_lit 369)) (nat_lit 0)), (.int (.ofNat (nat_lit 0)) (nat_lit 0)), (.ref (nat_lit 1149)), (.int (.ofNat (nat_lit 377)) (nat_lit 0)), (.int (.ofNat (nat_lit 0)) (nat_lit 0)), (.ref (nat_lit 1185)), (.int (.ofNat (nat_lit 413)) (nat_lit 0)), (.int (.ofNat (nat_lit 0)) (nat_lit 0)), (.ref (nat_lit 1192)), (.int (.ofNat (nat_lit 420)) (nat_lit 0)), (.int (.ofNat (nat_lit 0)) (nat_lit 0)), (.ref (nat_lit 1229)), (.int (.ofNat (nat_lit 475)) (nat_lit 0)), (.int (.ofNat (nat_lit 0)) (nat_lit 0)), (.ref (nat_lit 1236)), (.int (.ofNat (nat_lit 477)) (nat_lit 0)), (.int (.ofNat (nat_lit 0)) (nat_lit 0)), (.ref (nat_lit 1250)), (.int (.ofNat (nat_lit 480)) (nat_lit 0)), (.int (.ofNat (nat_lit 0)) (nat_lit 0)), (.ref (nat_lit 1264)), (.int (.ofNat (nat_lit 482)) (nat_lit 0)), (.int (.ofNat (nat_lit 0)) (nat_lit 0)), (.ref (nat_lit 1272)), (.int (.ofNat (nat_lit 484)) (nat_lit 0)), (.int (.ofNat (nat_lit 0)) (nat_lit 0)), (.ref (nat_lit 1279))])) (Array.mk []))
noncomputable def r15_1245 (P : Params) : Obj := (.mk (.type "tuple") .none (.seq (Array.mk [(.type "object")]) (nat_lit 0)) (Array.mk []))
noncomputable def r15_1246 (P : Params) : Obj := (.mk (.type "builtin_function_or_method") .none (.fields (Array.mk [(.builtin "type.__prepare__"), (.type "type")])) (Array.mk []))
noncomputable def r15_1247 (P : Params) : Obj := (.mk (.type "dict") .none (.dict (Array.mk [(.mk (KH P n119) (.str n119 (nat_lit 3658)) (.str n134 (nat_lit 3477))), (.mk (KH P n120) (.str n120 (nat_lit 3660)) (.str n143 (nat_lit 3659))), (.mk (KH P n121) (.str n121 (nat_lit 3662)) (.int (.ofNat (nat_lit 477)) (nat_lit 3661))), (.mk (KH P n122) (.str n122 (nat_lit 3664)) (.str n143 (nat_lit 3663))), (.mk (KH P n123) (.str n123 (nat_lit 3665)) (.ref (nat_lit 1252)))]) (nat_lit 5)) (Array.mk []))
noncomputable def r15_1248 (P : Params) : Obj := (.mk (.type "tuple") .none (.seq (Array.mk []) (nat_lit 0)) (Array.mk []))
noncomputable def r15_1249 (P : Params) : Obj := (.mk .none .none (.fields (Array.mk [])) (Array.mk []))
noncomputable def r15_1250 (P : Params) : Obj := (.mk (.type "code") .none (.fields (Array.mk [(.str n143 (nat_lit 3653)), (.str n143 (nat_lit 3654)), (.str n37 (nat_lit 3655)), (.int (.ofNat (nat_lit 477)) (nat_lit 0)), (.int (.ofNat (nat_lit 0)) (nat_lit 0)), (.int (.ofNat (nat_lit 0)) (nat_lit 0)), (.int (.ofNat (nat_lit 0)) (nat_lit 0)), (.int (.ofNat (nat_lit 0)) (nat_lit 0)), (.ref (nat_lit 1248)), (.bool false), (.int (.ofNat (nat_lit 181)) (nat_lit 0)), (.ref (nat_lit 1249)), .none, .none, .none, .none, (.int (.ofNat (nat_lit 3656)) (nat_lit 0)), (.int (.ofNat (nat_lit 477)) (nat_lit 0)), (.str n37 (nat_lit 3657))])) (Array.mk []))
noncomputable def r15_1251 (P : Params) : Obj := (.mk (.type "frame") .none .plain (Array.mk [(.some (.ref (nat_lit 1250))), (.some (.ref (nat_lit 3))), (.some (.ref (nat_lit 1247))), .none, (.some (.str n134 (nat_lit 3477))), .none, (.some (.ref (nat_lit 0)))]))
noncomputable def r15_1252 (P : Params) : Obj := (.mk (.type "tuple") .none (.seq (Array.mk []) (nat_lit 0)) (Array.mk []))
noncomputable def r15_1253 (P : Params) : Obj := (.mk (.type "dict") .none (.dict (Array.mk [(.mk (KH P n119) (.str n119 (nat_lit 3658)) (.str n134 (nat_lit 3477))), (.mk (KH P n121) (.str n121 (nat_lit 3662)) (.int (.ofNat (nat_lit 477)) (nat_lit 3661))), (.mk (KH P n122) (.str n122 (nat_lit 3664)) (.str n143 (nat_lit 3663))), (.mk (KH P n123) (.str n123 (nat_lit 3665)) (.ref (nat_lit 1252))), (.mk (KH P n124) (.str n124 (nat_lit 3667)) (.ref (nat_lit 1255))), (.mk (KH P n125) (.str n125 (nat_lit 3669)) (.ref (nat_lit 1256))), (.mk (KH P n43) (.str n43 (nat_lit 3670)) .none)]) (nat_lit 4)) (Array.mk []))
noncomputable def r15_1254 (P : Params) : Obj := (.mk (.type "type") .none (.cls (.mk n143 [(.type "object")] [(.ref (nat_lit 1254)), (.type "object")] (nat_lit 1253) n143 true [] [] false .none false)) (Array.mk [(.some (.ref (nat_lit 1245))), .none, (.some (.str n143 (nat_lit 3651))), (.some (.str n143 (nat_lit 3659))), (.some (.builtin "object.__new__")), (.some (.bool true))]))
noncomputable def r15_1255 (P : Params) : Obj := (.mk (.type "getset_descriptor") .none (.fields (Array.mk [(.str n124 (nat_lit 3666)), (.ref (nat_lit 1254)), (.builtin "function.__dict__"), (.builtin "function.__dict__#set")])) (Array.mk []))
noncomputable def r15_1256 (P : Params) : Obj := (.mk (.type "getset_descriptor") .none (.fields (Array.mk [(.str n125 (nat_lit 3668)), (.ref (nat_lit 1254)), (.builtin "ExceptionGroup.__weakref__"), .none])) (Array.mk []))
noncomputable def r15_1257 (P : Params) : Obj := (.mk (.type "super") .none (.fields (Array.mk [(.ref (nat_lit 1254)), (.ref (nat_lit 1254)), (.ref (nat_lit 1254))])) (Array.mk []))
noncomputable def r15_1258 (P : Params) : Obj := (.mk (.type "builtin_function_or_method") .none (.fields (Array.mk [(.builtin "object.__init_subclass__"), (.ref (nat_lit 1254))])) (Array.mk []))
noncomputable def r15_1259 (P : Params) : Obj := (.mk (.type "tuple") .none (.seq (Array.mk []) (nat_lit 0)) (Array.mk []))
noncomputable def r15_1260 (P : Params) : Obj := (.mk .none .none (.fields (Array.mk [])) (Array.mk []))
noncomputable def r15_1261 (P : Params) : Obj := (.mk (.type "tuple") .none (.seq (Array.mk [(.str n147 (nat_lit 3678)), (.str n108 (nat_lit 3679))]) (nat_lit 0)) (Array.mk []))
noncomputable def r15_1262 (P : Params) : Obj := (.mk (.type "tuple") .none (.seq (Array.mk []) (nat_lit 0)) (Array.mk []))
noncomputable def r15_1263 (P : Params) : Obj := (.mk .none .none (.func (.mk n144 n144 (fA (cel (nat_lit 62))) (.stmts (fB (cel (nat_lit 62)))) (fS (cel (nat_lit 62))) (nat_lit 0) [] .none .none .none .none .none .none .none (nat_lit 0))) (Array.mk []))
noncomputable def r15_1264 (P : Params) : Obj := (.mk (.type "code") .none (.fields (Array.mk [(.str n144 (nat_lit 3675)), (.str n144 (nat_lit 3676)), (.str n37 (nat_lit 3677)), (.int (.ofNat (nat_lit 480)) (nat_lit 0)), (.int (.ofNat (nat_lit 2)) (nat_lit 0)), (.int (.ofNat (nat_lit 0)) (nat_lit 0)), (.int (.ofNat (nat_lit 0)) (nat_lit 0)), (.int (.ofNat (nat_lit 3)) (nat_lit 0)), (.ref (nat_lit 1259)), (.bool true), (.int (.ofNat (nat_lit 181)) (nat_lit 0)), (.ref (nat_lit 1260)), .none, (.ref (nat_lit 1261)), (.ref (nat_lit 1262)), (.ref (nat_lit 1263)), (.int (.ofNat (nat_lit 3680)) (nat_lit 0)), (.int (.ofNat (nat_lit 480)) (nat_lit 0)), (.str n37 (nat_lit 3681))])) (Array.mk []))
noncomputable def r15_1265 (P : Params) : Obj := (.mk (.type "function") .none (.func (.mk n144 n144 (fA (cel (nat_lit 62))) (.stmts (fB (cel (nat_lit 62)))) (fS (cel (nat_lit 62))) (nat_lit 3) [] .none .none .none (.str n142 (nat_lit 3673)) .none (.ref (nat_lit 1264)) .none (nat_lit 0))) (Array.mk []))
noncomputable def r15_1266 (P : Params) : Obj := (.mk (.type "tuple") .none (.seq (Array.mk [(.bytes (Array.mk []) (nat_lit 3683))]) (nat_lit 0)) (Array.mk []))
noncomputable def r15_1267 (P : Params) : Obj := (.mk (.type "tuple") .none (.seq (Array.mk []) (nat_lit 0)) (Array.mk []))
noncomputable def r15_1268 (P : Params) : Obj := (.mk .none .none (.fields (Array.mk [])) (Array.mk []))
noncomputable def r15_1269 (P : Params) : Obj := (.mk (.type "tuple") .none (.seq (Array.mk [(.str n148 (nat_lit 3687))]) (nat_lit 0)) (Array.mk []))
noncomputable def r15_1270 (P : Params) : Obj := (.mk (.type "tuple") .none (.seq (Array.mk []) (nat_lit 0)) (Array.mk []))
noncomputable def r15_1271 (P : Params) : Obj := (.mk .none .none (.func (.mk n145 n145 (fA (cel (nat_lit 63))) (.stmts (fB (cel (nat_lit 63)))) (fS (cel (nat_lit 63))) (nat_lit 0) [] .none .none .none .none .none .none .none (nat_lit 0))) (Array.mk []))
noncomputable def r15_1272 (P : Params) : Obj := (.mk (.type "code") .none (.fields (Array.mk [(.str n145 (nat_lit 3684)), (.str n145 (nat_lit 3685)), (.str n37 (nat_lit 3686)), (.int (.ofNat (nat_lit 482)) (nat_lit 0)), (.int (.ofNat (nat_lit 1)) (nat_lit 0)), (.int (.ofNat (nat_lit 0)) (nat_lit 0)), (.int (.ofNat (nat_lit 0)) (nat_lit 0)), (.int (.ofNat (nat_lit 3)) (nat_lit 0)), (.ref (nat_lit 1267)), (.bool true), (.int (.ofNat (nat_lit 181)) (nat_lit 0)), (.ref (nat_lit 1268)), .none, (.ref (nat_lit 1269)), (.ref (nat_lit 1270)), (.ref (nat_lit 1271)), (.int (.ofNat (nat_lit 3688)) (nat_lit 0)), (.int (.ofNat (nat_lit 482)) (nat_lit 0)), (.str n37 (nat_lit 3689))])) (Array.mk []))
noncomputable def r15_1273 (P : Params) : Obj := (.mk (.type "function") .none (.func (.mk n145 n145 (fA (cel (nat_lit 63))) (.stmts (fB (cel (nat_lit 63)))) (fS (cel (nat_lit 63))) (nat_lit 3) [] (.ref (nat_lit 1266)) .none .none (.str n142 (nat_lit 3673)) .none (.ref (nat_lit 1272)) .none (nat_lit 0))) (Array.mk []))
noncomputable def r15_1274 (P : Params) : Obj := (.mk (.type "tuple") .none (.seq (Array.mk []) (nat_lit 0)) (Array.mk []))
noncomputable def r15_1275 (P : Params) : Obj := (.mk .none .none (.fields (Array.mk [])) (Array.mk []))
noncomputable def r15_1276 (P : Params) : Obj := (.mk (.type "tuple") .none (.seq (Array.mk [(.str n149 (nat_lit 3694)), (.str n111 (nat_lit 3695)), (.str n92 (nat_lit 3696)), (.str n93 (nat_lit 3697))]) (nat_lit 0)) (Array.mk []))
noncomputable def r15_1277 (P : Params) : Obj := (.mk (.type "tuple") .none (.seq (Array.mk []) (nat_lit 0)) (Array.mk []))
noncomputable def r15_1278 (P : Params) : Obj := (.mk .none .none (.func (.mk n146 n146 (fA (cel (nat_lit 64))) (.stmts (fB (cel (nat_lit 64)))) (fS (cel (nat_lit 64))) (nat_lit 0) [] .none .none .none .none .none .none .none (nat_lit 0))) (Array.mk []))
noncomputable def r15_1279 (P : Params) : Obj := (.mk (.type "code") .none (.fields (Array.mk [(.str n146 (nat_lit 3691)), (.str n146 (nat_lit 3692)), (.str n37 (nat_lit 3693)), (.int (.ofNat (nat_lit 484)) (nat_lit 0)), (.int (.ofNat (nat_lit 4)) (nat_lit 0)), (.int (.ofNat (nat_lit 0)) (nat_lit 0)), (.int (.ofNat (nat_lit 0)) (nat_lit 0)), (.int (.ofNat (nat_lit 3)) (nat_lit 0)), (.ref (nat_lit 1274)), (.bool true), (.int (.ofNat (nat_lit 181)) (nat_lit 0)), (.ref (nat_lit 1275)), .none, (.ref (nat_lit 1276)), (.ref (nat_lit 1277)), (.ref (nat_lit 1278)), (.int (.ofNat (nat_lit 3698)) (nat_lit 0)), (.int (.ofNat (nat_lit 484)) (nat_lit 0)), (.str n37 (nat_lit 3699))])) (Array.mk []))
noncomputable def r15_1280 (P : Params) : Obj := (.mk (.type "function") .none (.func (.mk n146 n146 (fA (cel (nat_lit 64))) (.stmts (fB (cel (nat_lit 64)))) (fS (cel (nat_lit 64))) (nat_lit 3) [] .none .none .none (.str n142 (nat_lit 3673)) .none (.ref (nat_lit 1279)) .none (nat_lit 0))) (Array.mk []))
noncomputable def r15T (P : Params) : BT := (BT.ins (BT.ins (BT.ins (BT.ins (BT.ins (BT.ins (BT.ins (BT.ins (BT.ins (BT.ins (BT.ins (BT.ins (BT.ins (BT.ins (BT.ins (BT.ins (BT.ins (BT.ins (BT.ins (BT.ins (BT.ins (BT.ins (BT.ins (BT.ins (BT.ins (BT.ins (BT.ins (BT.ins (BT.ins (BT.ins (BT.ins (BT.ins (BT.ins (BT.ins (BT.ins (BT.ins (BT.ins (BT.ins (r14T P) (nat_lit 3) (r15_3 P)) (nat_lit 12) (r15_12 P)) (nat_lit 1245) (r15_1245 P)) (nat_lit 1246) (r15_1246 P)) (nat_lit 1247) (r15_1247 P)) (nat_lit 1248) (r15_1248 P)) (nat_lit 1249) (r15_1249 P)) (nat_lit 1250) (r15_1250 P)) (nat_lit 1251) (r15_1251 P)) (nat_lit 1252) (r15_1252 P)) (nat_lit 1253) (r15_1253 P)) (nat_lit 1254) (r15_1254 P)) (nat_lit 1255) (r15_1255 P)) (nat_lit 1256) (r15_1256 P)) (nat_lit 1257) (r15_1257 P)) (nat_lit 1258) (r15_1258 P)) (nat_lit 1259) (r15_1259 P)) (nat_lit 1260) (r15_1260 P)) (nat_lit 1261) (r15_1261 P)) (nat_lit 1262) (r15_1262 P)) (nat_lit 1263) (r15_1263 P)) (nat_lit 1264) (r15_1264 P)) (nat_lit 1265) (r15_1265 P)) (nat_lit 1266) (r15_1266 P)) (nat_lit 1267) (r15_1267 P)) (nat_lit 1268) (r15_1268 P)) (nat_lit 1269) (r15_1269 P)) (nat_lit 1270) (r15_1270 P)) (nat_lit 1271) (r15_1271 P)) (nat_lit 1272) (r15_1272 P)) (nat_lit 1273) (r15_1273 P)) (nat_lit 1274) (r15_1274 P)) (nat_lit 1275) (r15_1275 P)) (nat_lit 1276) (r15_1276 P)) (nat_lit 1277) (r15_1277 P)) (nat_lit 1278) (r15_1278 P)) (nat_lit 1279) (r15_1279 P)) (nat_lit 1280) (r15_1280 P))
noncomputable def r15S (w : World) (os : OsState) : SharedT := ⟨r15T w.params, nat_lit 1281, {}, Array.mk [.finished, .finished], {}, nat_lit 3701, os⟩
noncomputable def rE16 (P : Params) : Array DictEntry := (Array.push (Array.push (Array.push (Array.push (Array.push (Array.push (Array.push (Array.push (rE15 P) (.mk (KH P n150) (.str n150 (nat_lit 3706)) (.ref (nat_lit 1285)))) (.mk (KH P n151) (.str n151 (nat_lit 3712)) (.ref (nat_lit 1290)))) (.mk (KH P n152) (.str n152 (nat_lit 3724)) (.ref (nat_lit 1297)))) (.mk (KH P n153) (.str n153 (nat_lit 3733)) (.ref (nat_lit 1304)))) (.mk (KH P n154) (.str n154 (nat_lit 3740)) (.ref (nat_lit 1311)))) (.mk (KH P n155) (.str n155 (nat_lit 3749)) (.ref (nat_lit 1318)))) (.mk (KH P n156) (.str n156 (nat_lit 3758)) (.ref (nat_lit 1325)))) (.mk (KH P n157) (.str n157 (nat_lit 3764)) (.ref (nat_lit 1330))))
noncomputable def r16_3 (P : Params) : Obj := ⟨(.type "dict"), .none, .dict (rE16 P) (nat_lit 74), (Array.mk [])⟩
noncomputable def r16_12 (P : Params) : Obj := (.mk .none .none (.fields (Array.mk [(.int (.ofNat (nat_lit 1)) (nat_lit 0)), (.int (.ofNat (nat_lit 0)) (nat_lit 0)), (.ref (nat_lit 20)), (.int (.ofNat (nat_lit 5)) (nat_lit 0)), (.int (.ofNat (nat_lit 0)) (nat_lit 0)), (.ref (nat_lit 27)), (.int (.ofNat (nat_lit 9)) (nat_lit 0)), (.int (.ofNat (nat_lit 0)) (nat_lit 0)), (.ref (nat_lit 34)), (.int (.ofNat (nat_lit 11)) (nat_lit 0)), (.int (.ofNat (nat_lit 0)) (nat_lit 0)), (.ref (nat_lit 47)), (.int (.ofNat (nat_lit 13)) (nat_lit 0)), (.int (.ofNat (nat_lit 0)) (nat_lit 0)), (.ref (nat_lit 54)), (.int (.ofNat (nat_lit 15)) (nat_lit 0)), (.int (.ofNat (nat_lit 0)) (nat_lit 0)), (.ref (nat_lit 61)), (.int (.ofNat (nat_lit 17)) (nat_lit 0)), (.int (.ofNat (nat_lit 0)) (nat_lit 0)), (.ref (nat_lit 69)), (.int (.ofNat (nat_lit 24)) (nat_lit 0)), (.int (.ofNat (nat_lit 0)) (nat_lit 0)), (.ref (nat_lit 76)), (.int (.ofNat (nat_lit 30)) (nat_lit 0)), (.int (.ofNat (nat_lit 0)) (nat_lit 0)), (.ref (nat_lit 84)), (.int (.ofNat (nat_lit 34)) (nat_lit 0)), (.int (.ofNat (nat_lit 0)) (nat_lit 0)), (.ref (nat_lit 91)), (.int (.ofNat (nat_lit 270)) (nat_lit 0)), (.int (.ofNat (nat_lit 0)) (nat_lit 0)), (.ref (nat_lit 298)), (.int (.ofNat (nat_lit 285)) (nat_lit 0)), (.int (.ofNat (nat_lit 0)) (nat_lit 0)), (.ref (nat_lit 1092)), (.int (.ofNat (nat_lit 291)) (nat_lit 0)), (.int (.ofNat (nat_lit 0)) (nat_lit 0)), (.ref (nat_lit 1100)), (.int (.ofNat (nat_lit 334)) (nat_lit 0)), (.int (.ofNat (nat_lit 0)) (nat_lit 0)), (.ref (nat_lit 1107)), (.int (.ofNat (nat_lit 336)) (nat_lit 0)), (.int (.ofNat (nat_lit 0)) (nat_lit 0)), (.ref (nat_lit 1114)), (.int (.ofNat (nat_lit 347)) (nat_lit 0)), (.int (.ofNat (nat_lit 0)) (nat_lit 0)), (.ref (nat_lit 1121)), (.int (.ofNat (nat_lit 357)) (nat_lit 0)), (.int (.ofNat (nat_lit 0)) (nat_lit 0)), (.ref (nat_lit 1128)), (.int (.ofNat (nat_lit 367)) (nat_lit 0)), (.int (.ofNat (nat_lit 0)) (nat_lit 0)), (.ref (nat_lit 1135)), (.int (.ofNat (nat_lit 369)) (nat_lit 0)), (.int (.ofNat (nat_lit 0)) (nat_lit 0)), (.ref (nat_lit 1149)), (.int (.ofNat (nat_lit 377)) (nat_lit 0)), (.int (.ofNat (nat_lit 0)) (nat_lit 0)), (.ref (nat_lit 1185)), (.int (.ofNat (nat_lit 413)) (nat_lit 0)), (.int (.ofNat (nat_lit 0)) (nat_lit 0)), (.ref (nat_lit 1192)), (.int (.ofNat (nat_lit 420)) (nat_lit 0)), (.int (.ofNat (nat_lit 0)) (nat_lit 0)), (.ref (nat_lit 1229)), (.int (.ofNat (nat_lit 475)) (nat_lit 0)), (.int (.ofNat (nat_lit 0)) (nat_lit 0)), (.ref (nat_lit 1236)), (.int (.ofNat (nat_lit 477)) (nat_lit 0)), (.int (.ofNat (nat_lit 0)) (nat_lit 0)), (.ref (nat_lit 1250)), (.int (.ofNat (nat_lit 480)) (nat_lit 0)), (.int (.ofNat (nat_lit 0)) (nat_lit 0)), (.ref (nat_lit 1264)), (.int (.ofNat (nat_lit 482)) (nat_lit 0)), (.int (.ofNat (nat_lit 0)) (nat_lit 0)), (.ref (nat_lit 1272)), (.int (.ofNat (nat_lit 484)) (nat_lit 0)), (.int (.ofNat (nat_lit 0)) (nat_lit 0)), (.ref (nat_lit 1279)), (.int (.ofNat (nat_lit 505)) (nat_lit 0)), (.int (.ofNat (nat_lit 0)) (nat_lit 0)), (.ref (nat_lit 1284)), (.int (.ofNat (nat_lit 515)) (nat_lit 0)), (.int (.ofNat (nat_lit 0)) (nat_lit 0)), (.ref (nat_lit 1289)), (.int (.ofNat (nat_lit 517)) (nat_lit 0)), (.int (.ofNat (nat_lit 0)) (nat_lit 0)), (.ref (nat_lit 1296)), (.int (.ofNat (nat_lit 530)) (nat_lit 0)), (.int (.ofNat (nat_lit 0)) (nat_lit 0)), (.ref (nat_lit 1303)), (.int (.ofNat (nat_lit 542)) (nat_lit 0)), (.int (.ofNat (nat_lit 0)) (nat_lit 0)), (.ref (nat_lit 1310)), (.int (.ofNat (nat_lit 544)) (nat_lit 0)), (.int (.ofNat (nat_lit 0)) (nat_lit 0)), (.ref (nat_lit 1317)), (.int (.ofNat (nat_lit 552)) (nat_lit 0)), (.int (.ofNat (nat_lit 0)) (nat_lit 0)), (.ref (nat_lit 1324)), (.int (.ofNat (nat_lit 558)) (nat_lit 0)), (.int (.ofNat (nat_lit 0)) (nat_lit 0)), (.ref (nat_lit 1329))])) (Array.mk []))
noncomputable def r16_1281 (P : Params) : Obj := (.mk (.type "tuple") .none (.seq (Array.mk []) (nat_lit 0)) (Array.mk []))
noncomputable def r16_1282 (P : Params) : Obj := (.mk .none .none (.fields (Array.mk [])) (Array.mk []))
noncomputable def r16_1283 (P : Params) : Obj := (.mk .none .none (.func (.mk n150 n150 (fA (cel (nat_lit 65))) (.stmts (fB (cel (nat_lit 65)))) (fS (cel (nat_lit 65))) (nat_lit 0) [] .none .none .none .none .none .none .none (nat_lit 0))) (Array.mk []))
noncomputable def r16_1284 (P : Params) : Obj := (.mk (.type "code") .none (.fields (Array.mk [(.str n150 (nat_lit 3701)), (.str n150 (nat_lit 3702)), (.str n37 (nat_lit 3703)), (.int (.ofNat (nat_lit 505)) (nat_lit 0)), (.int (.ofNat (nat_lit 2)) (nat_lit 0)), (.int (.ofNat (nat_lit 0)) (nat_lit 0)), (.int (.ofNat (nat_lit 0)) (nat_lit 0)), (.int (.ofNat (nat_lit 3)) (nat_lit 0)), (.ref (nat_lit 1281)), (.bool true), (.int (.ofNat (nat_lit 181)) (nat_lit 0)), (.ref (nat_lit 1282)), .none, .none, .none, (.ref (nat_lit 1283)), (.int (.ofNat (nat_lit 3704)) (nat_lit 0)), (.int (.ofNat (nat_lit 505)) (nat_lit 0)), (.str n37 (nat_lit 3705))])) (Array.mk []))
noncomputable def r16_1285 (P : Params) : Obj := (.mk (.type "function") .none (.func (.mk n150 n150 (fA (cel (nat_lit 65))) (.stmts (fB (cel (nat_lit 65)))) (fS (cel (nat_lit 65))) (nat_lit 3) [] .none .none .none (.str n142 (nat_lit 3673)) .none (.ref (nat_lit 1284)) .none (nat_lit 0))) (Array.mk []))
noncomputable def r16_1286 (P : Params) : Obj := (.mk (.type "tuple") .none (.seq (Array.mk []) (nat_lit 0)) (Array.mk []))
noncomputable def r16_1287 (P : Params) : Obj := (.mk .none .none (.fields (Array.mk [])) (Array.mk []))
noncomputable def r16_1288 (P : Params) : Obj := (.mk .none .none (.func (.mk n151 n151 (fA (cel (nat_lit 66))) (.stmts (fB (cel (nat_lit 66)))) (fS (cel (nat_lit 66))) (nat_lit 0) [] .none .none .none .none .none .none .none (nat_lit 0))) (Array.mk []))
noncomputable def r16_1289 (P : Params) : Obj := (.mk (.type "code") .none (.fields (Array.mk [(.str n151 (nat_lit 3707)), (.str n151 (nat_lit 3708)), (.str n37 (nat_lit 3709)), (.int (.ofNat (nat_lit 515)) (nat_lit 0)), (.int (.ofNat (nat_lit 2)) (nat_lit 0)), (.int (.ofNat (nat_lit 0)) (nat_lit 0)), (.int (.ofNat (nat_lit 0)) (nat_lit 0)), (.int (.ofNat (nat_lit 3)) (nat_lit 0)), (.ref (nat_lit 1286)), (.bool true), (.int (.ofNat (nat_lit 181)) (nat_lit 0)), (.ref (nat_lit 1287)), .none, .none, .none, (.ref (nat_lit 1288)), (.int (.ofNat (nat_lit 3710)) (nat_lit 0)), (.int (.ofNat (nat_lit 515)) (nat_lit 0)), (.str n37 (nat_lit 3711))])) (Array.mk []))
noncomputable def r16_1290 (P : Params) : Obj := (.mk (.type "function") .none (.func (.mk n151 n151 (fA (cel (nat_lit 66))) (.stmts (fB (cel (nat_lit 66)))) (fS (cel (nat_lit 66))) (nat_lit 3) [] .none .none .none (.str n142 (nat_lit 3673)) .none (.ref (nat_lit 1289)) .none (nat_lit 0))) (Array.mk []))
noncomputable def r16_1291 (P : Params) : Obj := (.mk (.type "tuple") .none (.seq (Array.mk []) (nat_lit 0)) (Array.mk []))
noncomputable def r16_1292 (P : Params) : Obj := (.mk .none .none (.fields (Array.mk [])) (Array.mk []))
noncomputable def r16_1293 (P : Params) : Obj := (.mk (.type "tuple") .none (.seq (Array.mk [(.str n158 (nat_lit 3716)), (.str n159 (nat_lit 3717)), (.str n160 (nat_lit 3718)), (.str n161 (nat_lit 3719)), (.str n162 (nat_lit 3720)), (.str n163 (nat_lit 3721))]) (nat_lit 0)) (Array.mk []))
noncomputable def r16_1294 (P : Params) : Obj := (.mk (.type "tuple") .none (.seq (Array.mk []) (nat_lit 0)) (Array.mk []))
noncomputable def r16_1295 (P : Params) : Obj := (.mk .none .none (.func (.mk n152 n152 (fA (cel (nat_lit 67))) (.stmts (fB (cel (nat_lit 67)))) (fS (cel (nat_lit 67))) (nat_lit 0) [] .none .none .none .none .none .none .none (nat_lit 0))) (Array.mk []))
noncomputable def r16_1296 (P : Params) : Obj := (.mk (.type "code") .none (.fields (Array.mk [(.str n152 (nat_lit 3713)), (.str n152 (nat_lit 3714)), (.str n37 (nat_lit 3715)), (.int (.ofNat (nat_lit 517)) (nat_lit 0)), (.int (.ofNat (nat_lit 3)) (nat_lit 0)), (.int (.ofNat (nat_lit 0)) (nat_lit 0)), (.int (.ofNat (nat_lit 0)) (nat_lit 0)), (.int (.ofNat (nat_lit 3)) (nat_lit 0)), (.ref (nat_lit 1291)), (.bool true), (.int (.ofNat (nat_lit 181)) (nat_lit 0)), (.ref (nat_lit 1292)), .none, (.ref (nat_lit 1293)), (.ref (nat_lit 1294)), (.ref (nat_lit 1295)), (.int (.ofNat (nat_lit 3722)) (nat_lit 0)), (.int (.ofNat (nat_lit 517)) (nat_lit 0)), (.str n37 (nat_lit 3723))])) (Array.mk []))
noncomputable def r16_1297 (P : Params) : Obj := (.mk (.type "function") .none (.func (.mk n152 n152 (fA (cel (nat_lit 67))) (.stmts (fB (cel (nat_lit 67)))) (fS (cel (nat_lit 67))) (nat_lit 3) [] .none .none .none (.str n142 (nat_lit 3673)) .none (.ref (nat_lit 1296)) .none (nat_lit 0))) (Array.mk []))
noncomputable def r16_1298 (P : Params) : Obj := (.mk (.type "tuple") .none (.seq (Array.mk []) (nat_lit 0)) (Array.mk []))
noncomputable def r16_1299 (P : Params) : Obj := (.mk .none .none (.fields (Array.mk [])) (Array.mk []))
noncomputable def r16_1300 (P : Params) : Obj := (.mk (.type "tuple") .none (.seq (Array.mk [(.str n158 (nat_lit 3728)), (.str n159 (nat_lit 3729)), (.str n164 (nat_lit 3730))]) (nat_lit 0)) (Array.mk []))
noncomputable def r16_1301 (P : Params) : Obj := (.mk (.type "tuple") .none (.seq (Array.mk []) (nat_lit 0)) (Array.mk []))
noncomputable def r16_1302 (P : Params) : Obj := (.mk .none .none (.func (.mk n153 n153 (fA (cel (nat_lit 68))) (.stmts (fB (cel (nat_lit 68)))) (fS (cel (nat_lit 68))) (nat_lit 0) [] .none .none .none .none .none .none .none (nat_lit 0))) (Array.mk []))
noncomputable def r16_1303 (P : Params) : Obj := (.mk (.type "code") .none (.fields (Array.mk [(.str n153 (nat_lit 3725)), (.str n153 (nat_lit 3726)), (.str n37 (nat_lit 3727)), (.int (.ofNat (nat_lit 530)) (nat_lit 0)), (.int (.ofNat (nat_lit 3)) (nat_lit 0)), (.int (.ofNat (nat_lit 0)) (nat_lit 0)), (.int (.ofNat (nat_lit 0)) (nat_lit 0)), (.int (.ofNat (nat_lit 3)) (nat_lit 0)), (.ref (nat_lit 1298)), (.bool true), (.int (.ofNat (nat_lit 181)) (nat_lit 0)), (.ref (nat_lit 1299)), .none, (.ref (nat_lit 1300)), (.ref (nat_lit 1301)), (.ref (nat_lit 1302)), (.int (.ofNat (nat_lit 3731)) (nat_lit 0)), (.int (.ofNat (nat_lit 530)) (nat_lit 0)), (.str n37 (nat_lit 3732))])) (Array.mk []))
noncomputable def r16_1304 (P : Params) : Obj := (.mk (.type "function") .none (.func (.mk n153 n153 (fA (cel (nat_lit 68))) (.stmts (fB (cel (nat_lit 68)))) (fS (cel (nat_lit 68))) (nat_lit 3) [] .none .none .none (.str n142 (nat_lit 3673)) .none (.ref (nat_lit 1303)) .none (nat_lit 0))) (Array.mk []))
noncomputable def r16_1305 (P : Params) : Obj := (.mk (.type "tuple") .none (.seq (Array.mk []) (nat_lit 0)) (Array.mk []))
noncomputable def r16_1306 (P : Params) : Obj := (.mk .none .none (.fields (Array.mk [])) (Array.mk []))
noncomputable def r16_1307 (P : Params) : Obj := (.mk (.type "tuple") .none (.seq (Array.mk [(.str n158 (nat_lit 3737))]) (nat_lit 0)) (Array.mk []))
noncomputable def r16_1308 (P : Params) : Obj := (.mk (.type "tuple") .none (.seq (Array.mk []) (nat_lit 0)) (Array.mk []))
noncomputable def r16_1309 (P : Params) : Obj := (.mk .none .none (.func (.mk n154 n154 (fA (cel (nat_lit 69))) (.stmts (fB (cel (nat_lit 69)))) (fS (cel (nat_lit 69))) (nat_lit 0) [] .none .none .none .none .none .none .none (nat_lit 0))) (Array.mk []))
noncomputable def r16_1310 (P : Params) : Obj := (.mk (.type "code") .none (.fields (Array.mk [(.str n154 (nat_lit 3734)), (.str n154 (nat_lit 3735)), (.str n37 (nat_lit 3736)), (.int (.ofNat (nat_lit 542)) (nat_lit 0)), (.int (.ofNat (nat_lit 1)) (nat_lit 0)), (.int (.ofNat (nat_lit 0)) (nat_lit 0)), (.int (.ofNat (nat_lit 0)) (nat_lit 0)), (.int (.ofNat (nat_lit 3)) (nat_lit 0)), (.ref (nat_lit 1305)), (.bool true), (.int (.ofNat (nat_lit 181)) (nat_lit 0)), (.ref (nat_lit 1306)), .none, (.ref (nat_lit 1307)), (.ref (nat_lit 1308)), (.ref (nat_lit 1309)), (.int (.ofNat (nat_lit 3738)) (nat_lit 0)), (.int (.ofNat (nat_lit 542)) (nat_lit 0)), (.str n37 (nat_lit 3739))])) (Array.mk []))
noncomputable def r16_1311 (P : Params) : Obj := (.mk (.type "function") .none (.func (.mk n154 n154 (fA (cel (nat_lit 69))) (.stmts (fB (cel (nat_lit 69)))) (fS (cel (nat_lit 69))) (nat_lit 3) [] .none .none .none (.str n142 (nat_lit 3673)) .none (.ref (nat_lit 1310)) .none (nat_lit 0))) (Array.mk []))
noncomputable def r16_1312 (P : Params) : Obj := (.mk (.type "tuple") .none (.seq (Array.mk []) (nat_lit 0)) (Array.mk []))
noncomputable def r16_1313 (P : Params) : Obj := (.mk .none .none (.fields (Array.mk [])) (Array.mk []))
noncomputable def r16_1314 (P : Params) : Obj := (.mk (.type "tuple") .none (.seq (Array.mk [(.str n149 (nat_lit 3744)), (.str n158 (nat_lit 3745)), (.str n165 (nat_lit 3746))]) (nat_lit 0)) (Array.mk []))
noncomputable def r16_1315 (P : Params) : Obj := (.mk (.type "tuple") .none (.seq (Array.mk []) (nat_lit 0)) (Array.mk []))
noncomputable def r16_1316 (P : Params) : Obj := (.mk .none .none (.func (.mk n155 n155 (fA (cel (nat_lit 70))) (.stmts (fB (cel (nat_lit 70)))) (fS (cel (nat_lit 70))) (nat_lit 0) [] .none .none .none .none .none .none .none (nat_lit 0))) (Array.mk []))
noncomputable def r16_1317 (P : Params) : Obj := (.mk (.type "code") .none (.fields (Array.mk [(.str n155 (nat_lit 3741)), (.str n155 (nat_lit 3742)), (.str n37 (nat_lit 3743)), (.int (.ofNat (nat_lit 544)) (nat_lit 0)), (.int (.ofNat (nat_lit 3)) (nat_lit 0)), (.int (.ofNat (nat_lit 0)) (nat_lit 0)), (.int (.ofNat (nat_lit 0)) (nat_lit 0)), (.int (.ofNat (nat_lit 3)) (nat_lit 0)), (.ref (nat_lit 1312)), (.bool true), (.int (.ofNat (nat_lit 181)) (nat_lit 0)), (.ref (nat_lit 1313)), .none, (.ref (nat_lit 1314)), (.ref (nat_lit 1315)), (.ref (nat_lit 1316)), (.int (.ofNat (nat_lit 3747)) (nat_lit 0)), (.int (.ofNat (nat_lit 544)) (nat_lit 0)), (.str n37 (nat_lit 3748))])) (Array.mk []))
noncomputable def r16_1318 (P : Params) : Obj := (.mk (.type "function") .none (.func (.mk n155 n155 (fA (cel (nat_lit 70))) (.stmts (fB (cel (nat_lit 70)))) (fS (cel (nat_lit 70))) (nat_lit 3) [] .none .none .none (.str n142 (nat_lit 3673)) .none (.ref (nat_lit 1317)) .none (nat_lit 0))) (Array.mk []))
noncomputable def r16_1319 (P : Params) : Obj := (.mk (.type "tuple") .none (.seq (Array.mk []) (nat_lit 0)) (Array.mk []))
noncomputable def r16_1320 (P : Params) : Obj := (.mk .none .none (.fields (Array.mk [])) (Array.mk []))
noncomputable def r16_1321 (P : Params) : Obj := (.mk (.type "tuple") .none (.seq (Array.mk [(.str n158 (nat_lit 3753)), (.str n165 (nat_lit 3754)), (.str n166 (nat_lit 3755))]) (nat_lit 0)) (Array.mk []))
noncomputable def r16_1322 (P : Params) : Obj := (.mk (.type "tuple") .none (.seq (Array.mk []) (nat_lit 0)) (Array.mk []))
noncomputable def r16_1323 (P : Params) : Obj := (.mk .none .none (.func (.mk n156 n156 (fA (cel (nat_lit 71))) (.stmts (fB (cel (nat_lit 71)))) (fS (cel (nat_lit 71))) (nat_lit 0) [] .none .none .none .none .none .none .none (nat_lit 0))) (Array.mk []))
noncomputable def r16_1324 (P : Params) : Obj := (.mk (.type "code") .none (.fields (Array.mk [(.str n156 (nat_lit 3750)), (.str n156 (nat_lit 3751)), (.str n37 (nat_lit 3752)), (.int (.ofNat (nat_lit 552)) (nat_lit 0)), (.int (.ofNat (nat_lit 3)) (nat_lit 0)), (.int (.ofNat (nat_lit 0)) (nat_lit 0)), (.int (.ofNat (nat_lit 0)) (nat_lit 0)), (.int (.ofNat (nat_lit 3)) (nat_lit 0)), (.ref (nat_lit 1319)), (.bool true), (.int (.ofNat (nat_lit 181)) (nat_lit 0)), (.ref (nat_lit 1320)), .none, (.ref (nat_lit 1321)), (.ref (nat_lit 1322)), (.ref (nat_lit 1323)), (.int (.ofNat (nat_lit 3756)) (nat_lit 0)), (.int (.ofNat (nat_lit 552)) (nat_lit 0)), (.str n37 (nat_lit 3757))])) (Array.mk []))
noncomputable def r16_1325 (P : Params) : Obj := (.mk (.type "function") .none (.func (.mk n156 n156 (fA (cel (nat_lit 71))) (.stmts (fB (cel (nat_lit 71)))) (fS (cel (nat_lit 71))) (nat_lit 3) [] .none .none .none (.str n142 (nat_lit 3673)) .none (.ref (nat_lit 1324)) .none (nat_lit 0))) (Array.mk []))
noncomputable def r16_1326 (P : Params) : Obj := (.mk (.type "tuple") .none (.seq (Array.mk []) (nat_lit 0)) (Array.mk []))
noncomputable def r16_1327 (P : Params) : Obj := (.mk .none .none (.fields (Array.mk [])) (Array.mk []))
noncomputable def r16_1328 (P : Params) : Obj := (.mk .none .none (.func (.mk n157 n157 (fA (cel (nat_lit 72))) (.stmts (fB (cel (nat_lit 72)))) (fS (cel (nat_lit 72))) (nat_lit 0) [] .none .none .none .none .none .none .none (nat_lit 0))) (Array.mk []))
noncomputable def r16_1329 (P : Params) : Obj := (.mk (.type "code") .none (.fields (Array.mk [(.str n157 (nat_lit 3759)), (.str n157 (nat_lit 3760)), (.str n37 (nat_lit 3761)), (.int (.ofNat (nat_lit 558)) (nat_lit 0)), (.int (.ofNat (nat_lit 1)) (nat_lit 0)), (.int (.ofNat (nat_lit 0)) (nat_lit 0)), (.int (.ofNat (nat_lit 0)) (nat_lit 0)), (.int (.ofNat (nat_lit 3)) (nat_lit 0)), (.ref (nat_lit 1326)), (.bool true), (.int (.ofNat (nat_lit 181)) (nat_lit 0)), (.ref (nat_lit 1327)), .none, .none, .none, (.ref (nat_lit 1328)), (.int (.ofNat (nat_lit 3762)) (nat_lit 0)), (.int (.ofNat (nat_lit 558)) (nat_lit 0)), (.str n37 (nat_lit 3763))])) (Array.mk []))
noncomputable def r16_1330 (P : Params) : Obj := (.mk (.type "function") .none (.func (.mk n157 n157 (fA (cel (nat_lit 72))) (.stmts (fB (cel (nat_lit 72)))) (fS (cel (nat_lit 72))) (nat_lit 3) [] .none .none .none (.str n142 (nat_lit 3673)) .none (.ref (nat_lit 1329)) .none (nat_lit 0))) (Array.mk []))
noncomputable def r16T (P : Params) : BT := (BT.ins (BT.ins (BT.ins (BT.ins (BT.ins (BT.ins (BT.ins (BT.ins (BT.ins (BT.ins (BT.ins (BT.ins (BT.ins (BT.ins (BT.ins (BT.ins (BT.ins (BT.ins (BT.ins (BT.ins (BT.ins (BT.ins (BT.ins (BT.ins (BT.ins (BT.ins (BT.ins (BT.ins (BT.ins (BT.ins (BT.ins (BT.ins (BT.ins (BT.ins (BT.ins (BT.ins (BT.ins (BT.ins (BT.ins (BT.ins (BT.ins (BT.ins (BT.ins (BT.ins (BT.ins (BT.ins (BT.ins (BT.ins (BT.ins (BT.ins (BT.ins (BT.ins (r15T P) (nat_lit 3) (r16_3 P)) (nat_lit 12) (r16_12 P)) (nat_lit 1281) (r16_1281 P)) (nat_lit 1282) (r16_1282 P)) (nat_lit 1283) (r16_1283 P)) (nat_lit 1284) (r16_1284 P)) (nat_lit 1285) (r16_1285 P)) (nat_lit 1286) (r16_1286 P)) (nat_lit 1287) (r16_1287 P)) (nat_lit 1288) (r16_1288 P)) (nat_lit 1289) (r16_1289 P)) (nat_lit 1290) (r16_1290 P)) (nat_lit 1291) (r16_1291 P)) (nat_lit 1292) (r16_1292 P)) (nat_lit 1293) (r16_1293 P)) (nat_lit 1294) (r16_1294 P)) (nat_lit 1295) (r16_1295 P)) (nat_lit 1296) (r16_1296 P)) (nat_lit 1297) (r16_1297 P)) (nat_lit 1298) (r16_1298 P)) (nat_lit 1299) (r16_1299 P)) (nat_lit 1300) (r16_1300 P)) (nat_lit 1301) (r16_1301 P)) (nat_lit 1302) (r16_1302 P)) (nat_lit 1303) (r16_1303 P)) (nat_lit 1304) (r16_1304 P)) (nat_lit 1305) (r16_1305 P)) (nat_lit 1306) (r16_1306 P)) (nat_lit 1307) (r16_1307 P)) (nat_lit 1308) (r16_1308 P)) (nat_lit 1309) (r16_1309 P)) (nat_lit 1310) (r16_1310 P)) (nat_lit 1311) (r16_1311 P)) (nat_lit 1312) (r16_1312 P)) (nat_lit 1313) (r16_1313 P)) (nat_lit 1314) (r16_1314 P)) (nat_lit 1315) (r16_1315 P)) (nat_lit 1316) (r16_1316 P)) (nat_lit 1317) (r16_1317 P)) (nat_lit 1318) (r16_1318 P)) (nat_lit 1319) (r16_1319 P)) (nat_lit 1320) (r16_1320 P)) (nat_lit 1321) (r16_1321 P)) (nat_lit 1322) (r16_1322 P)) (nat_lit 1323) (r16_1323 P)) (nat_lit 1324) (r16_1324 P)) (nat_lit 1325) (r16_1325 P)) (nat_lit 1326) (r16_1326 P)) (nat_lit 1327) (r16_1327 P)) (nat_lit 1328) (r16_1328 P)) (nat_lit 1329) (r16_1329 P)) (nat_lit 1330) (r16_1330 P))
noncomputable def r16S (w : World) (os : OsState) : SharedT := ⟨r16T w.params, nat_lit 1331, {}, Array.mk [.finished, .finished], {}, nat_lit 3765, os⟩

end Mine
end -- HD
section -- HLa
open PySem PySem.W PySem.W.X PyProof.Rows
set_option maxHeartbeats 0
namespace Mine
noncomputable def aK (i : Nat) (w : World) (os : OsState) : Result → Sem Fin := kOf (thOf (GO (nat_lit 184) w (aS0 w os) aTh0)).stack i
theorem a1 (b : Bool) (w : World) (os : OsState) : GO (nat_lit 184) (W b w) (aS0 (W b w) os) aTh0 = some (aS1 (W b w) os, aTh1 (aK (nat_lit 0) (W b w) os) (aK (nat_lit 1) (W b w) os) (aK (nat_lit 2) (W b w) os) (aK (nat_lit 3) (W b w) os) (aK (nat_lit 4) (W b w) os)) := by
  cases b <;> kernel_rfl
theorem a2 (b : Bool) (k0 k1 k2 k3 k4 : Result → Sem Fin) (w : World) (os : OsState) : GO (nat_lit 60) (W b w) (aS1 (W b w) os) (aTh1 k0 k1 k2 k3 k4) = some (aS2 (W b w) os, aTh1 k0 k1 k2 k3 k4) := by
  cases b <;> kernel_rfl
theorem a3 (b : Bool) (k0 k1 k2 k3 k4 : Result → Sem Fin) (w : World) (os : OsState) : GO (nat_lit 62) (W b w) (aS2 (W b w) os) (aTh1 k0 k1 k2 k3 k4) = some (aS3 (W b w) os, aTh1 k0 k1 k2 k3 k4) := by
  cases b <;> kernel_rfl
theorem a4 (b : Bool) (k0 k1 k2 k3 k4 : Result → Sem Fin) (w : World) (os : OsState) : GO (nat_lit 60) (W b w) (aS3 (W b w) os) (aTh1 k0 k1 k2 k3 k4) = some (aS4 (W b w) os, aTh1 k0 k1 k2 k3 k4) := by
  cases b <;> kernel_rfl
theorem a5 (b : Bool) (k0 k1 k2 k3 k4 : Result → Sem Fin) (w : World) (os : OsState) : GO (nat_lit 60) (W b w) (aS4 (W b w) os) (aTh1 k0 k1 k2 k3 k4) = some (aS5 (W b w) os, aTh1 k0 k1 k2 k3 k4) := by
  cases b <;> kernel_rfl
theorem a6 (b : Bool) (k0 k1 k2 k3 k4 : Result → Sem Fin) (w : World) (os : OsState) : GO (nat_lit 60) (W b w) (aS5 (W b w) os) (aTh1 k0 k1 k2 k3 k4) = some (aS6 (W b w) os, aTh1 k0 k1 k2 k3 k4) := by
  cases b <;> kernel_rfl
theorem a7 (b : Bool) (k0 k1 k2 k3 k4 : Result → Sem Fin) (w : World) (os : OsState) : GO (nat_lit 62) (W b w) (aS6 (W b w) os) (aTh1 k0 k1 k2 k3 k4) = some (aS7 (W b w) os, aTh1 k0 k1 k2 k3 k4) := by
  cases b <;> kernel_rfl
theorem a8 (b : Bool) (k0 k1 k2 k3 k4 : Result → Sem Fin) (w : World) (os : OsState) : GO (nat_lit 60) (W b w) (aS7 (W b w) os) (aTh1 k0 k1 k2 k3 k4) = some (aS8 (W b w) os, aTh1 k0 k1 k2 k3 k4) := by
  cases b <;> kernel_rfl
theorem a9 (b : Bool) (k0 k1 k2 k3 k4 : Result → Sem Fin) (w : World) (os : OsState) : GO (nat_lit 60) (W b w) (aS8 (W b w) os) (aTh1 k0 k1 k2 k3 k4) = some (aS9 (W b w) os, aTh1 k0 k1 k2 k3 k4) := by
  cases b <;> kernel_rfl
theorem a10 (b : Bool) (k0 k1 k2 k3 k4 : Result → Sem Fin) (w : World) (os : OsState) : GO (nat_lit 60) (W b w) (aS9 (W b w) os) (aTh1 k0 k1 k2 k3 k4) = some (aS10 (W b w) os, aTh1 k0 k1 k2 k3 k4) := by
  cases b <;> kernel_rfl
theorem a11 (b : Bool) (k0 k1 k2 k3 k4 : Result → Sem Fin) (w : World) (os : OsState) : GO (nat_lit 60) (W b w) (aS10 (W b w) os) (aTh1 k0 k1 k2 k3 k4) = some (aS11 (W b w) os, aTh1 k0 k1 k2 k3 k4) := by
  cases b <;> kernel_rfl
theorem a12 (b : Bool) (k0 k1 k2 k3 k4 : Result → Sem Fin) (w : World) (os : OsState) : GO (nat_lit 60) (W b w) (aS11 (W b w) os) (aTh1 k0 k1 k2 k3 k4) = some (aS12 (W b w) os, aTh1 k0 k1 k2 k3 k4) := by
  cases b <;> kernel_rfl
theorem a13 (b : Bool) (k0 k1 k2 k3 k4 : Result → Sem Fin) (w : World) (os : OsState) : GO (nat_lit 60) (W b w) (aS12 (W b w) os) (aTh1 k0 k1 k2 k3 k4) = some (aS13 (W b w) os, aTh1 k0 k1 k2 k3 k4) := by
  cases b <;> kernel_rfl
theorem a14 (b : Bool) (k0 k1 k2 k3 k4 : Result → Sem Fin) (w : World) (os : OsState) : GO (nat_lit 60) (W b w) (aS13 (W b w) os) (aTh1 k0 k1 k2 k3 k4) = some (aS14 (W b w) os, aTh1 k0 k1 k2 k3 k4) := by
  cases b <;> kernel_rfl
theorem a15 (b : Bool) (k0 k1 k2 k3 k4 : Result → Sem Fin) (w : World) (os : OsState) : GO (nat_lit 60) (W b w) (aS14 (W b w) os) (aTh1 k0 k1 k2 k3 k4) = some (aS15 (W b w) os, aTh1 k0 k1 k2 k3 k4) := by
  cases b <;> kernel_rfl
theorem a16 (b : Bool) (k0 k1 k2 k3 k4 : Result → Sem Fin) (w : World) (os : OsState) : GO (nat_lit 60) (W b w) (aS15 (W b w) os) (aTh1 k0 k1 k2 k3 k4) = some (aS16 (W b w) os, aTh1 k0 k1 k2 k3 k4) := by
  cases b <;> kernel_rfl
theorem a17 (b : Bool) (k0 k1 k2 k3 k4 : Result → Sem Fin) (w : World) (os : OsState) : GO (nat_lit 60) (W b w) (aS16 (W b w) os) (aTh1 k0 k1 k2 k3 k4) = some (aS17 (W b w) os, aTh1 k0 k1 k2 k3 k4) := by
  cases b <;> kernel_rfl
theorem a18 (b : Bool) (k0 k1 k2 k3 k4 : Result → Sem Fin) (w : World) (os : OsState) : GO (nat_lit 60) (W b w) (aS17 (W b w) os) (aTh1 k0 k1 k2 k3 k4) = some (aS18 (W b w) os, aTh1 k0 k1 k2 k3 k4) := by
  cases b <;> kernel_rfl
theorem a19 (b : Bool) (k0 k1 k2 k3 k4 : Result → Sem Fin) (w : World) (os : OsState) : GO (nat_lit 60) (W b w) (aS18 (W b w) os) (aTh1 k0 k1 k2 k3 k4) = some (aS19 (W b w) os, aTh1 k0 k1 k2 k3 k4) := by
  cases b <;> kernel_rfl
theorem a20 (b : Bool) (k0 k1 k2 k3 k4 : Result → Sem Fin) (w : World) (os : OsState) : GO (nat_lit 60) (W b w) (aS19 (W b w) os) (aTh1 k0 k1 k2 k3 k4) = some (aS20 (W b w) os, aTh1 k0 k1 k2 k3 k4) := by
  cases b <;> kernel_rfl
theorem a21 (b : Bool) (k0 k1 k2 k3 k4 : Result → Sem Fin) (w : World) (os : OsState) : GO (nat_lit 60) (W b w) (aS20 (W b w) os) (aTh1 k0 k1 k2 k3 k4) = some (aS21 (W b w) os, aTh1 k0 k1 k2 k3 k4) := by
  cases b <;> kernel_rfl
theorem a22 (b : Bool) (k0 k1 k2 k3 k4 : Result → Sem Fin) (w : World) (os : OsState) : GO (nat_lit 60) (W b w) (aS21 (W b w) os) (aTh1 k0 k1 k2 k3 k4) = some (aS22 (W b w) os, aTh1 k0 k1 k2 k3 k4) := by
  cases b <;> kernel_rfl
theorem a23 (b : Bool) (k0 k1 k2 k3 k4 : Result → Sem Fin) (w : World) (os : OsState) : GO (nat_lit 14) (W b w) (aS22 (W b w) os) (aTh1 k0 k1 k2 k3 k4) = some (aS23 (W b w) os, aTh23 k0 k1 k2 k3 k4) := by
  cases b <;> kernel_rfl
noncomputable def aM (i : Nat) (w : World) (os : OsState) : Result → Sem Fin := kOf (thOf (GO (nat_lit 216) w (aS23 w os) (aTh23 (aK (nat_lit 0) w os) (aK (nat_lit 1) w os) (aK (nat_lit 2) w os) (aK (nat_lit 3) w os) (aK (nat_lit 4) w os)))).stack i
theorem a24 (b : Bool) (w : World) (os : OsState) : GO (nat_lit 216) (W b w) (aS23 (W b w) os) (aTh23 (aK (nat_lit 0) (W b w) os) (aK (nat_lit 1) (W b w) os) (aK (nat_lit 2) (W b w) os) (aK (nat_lit 3) (W b w) os) (aK (nat_lit 4) (W b w) os)) = some (aS24 (W b w) os, aTh24 (aM (nat_lit 0) (W b w) os) (aM (nat_lit 1) (W b w) os) (aM (nat_lit 2) (W b w) os) (aM (nat_lit 3) (W b w) os)) := by
  cases b <;> kernel_rfl
noncomputable def aG (w : World) (os : OsState) : Resume → Sem Fin := gOf (shOf (GO (nat_lit 132) (CI true w) (aS24 (CI true w) os) (aTh24 (fun _ => .raise .none) (fun _ => .raise .none) (fun _ => .raise .none) (fun _ => .raise .none)))).gens.toList
theorem aftrue (b : Bool) (k0 k1 k2 k3 : Result → Sem Fin) (w : World) (os : OsState) : GO (nat_lit 132) (W b (CI true w)) (aS24 (W b (CI true w)) os) (aTh24 k0 k1 k2 k3) = some (aL (nat_lit 1) (W b (CI true w)) os (aG (W b (CI true w)) os), aThL (nat_lit 1) k0 k1 k2 k3) := by
  cases b <;> kernel_rfl
theorem affalse (b : Bool) (k0 k1 k2 k3 : Result → Sem Fin) (w : World) (os : OsState) : GO (nat_lit 142) (W b (CI false w)) (aS24 (W b (CI false w)) os) (aTh24 k0 k1 k2 k3) = some (aL (nat_lit 1) (W b (CI false w)) os (aG (W b (CI false w)) os), aThL (nat_lit 1) k0 k1 k2 k3) := by
  cases b <;> kernel_rfl
theorem aq1 (b : Bool) (k0 k1 k2 k3 : Result → Sem Fin) (w : World) (os : OsState) : GO (nat_lit 917) (W b w) (aL (nat_lit 1) (W b w) os (aG (W b w) os)) (aThL (nat_lit 1) k0 k1 k2 k3) = some (aL (nat_lit 8) (W b w) os (aG (W b w) os), aThL (nat_lit 8) k0 k1 k2 k3) := by
  cases b <;> kernel_rfl
theorem aq8 (b : Bool) (k0 k1 k2 k3 : Result → Sem Fin) (w : World) (os : OsState) : GO (nat_lit 917) (W b w) (aL (nat_lit 8) (W b w) os (aG (W b w) os)) (aThL (nat_lit 8) k0 k1 k2 k3) = some (aL (nat_lit 15) (W b w) os (aG (W b w) os), aThL (nat_lit 15) k0 k1 k2 k3) := by
  cases b <;> kernel_rfl
theorem aq15 (b : Bool) (k0 k1 k2 k3 : Result → Sem Fin) (w : World) (os : OsState) : GO (nat_lit 917) (W b w) (aL (nat_lit 15) (W b w) os (aG (W b w) os)) (aThL (nat_lit 15) k0 k1 k2 k3) = some (aL (nat_lit 22) (W b w) os (aG (W b w) os), aThL (nat_lit 22) k0 k1 k2 k3) := by
  cases b <;> kernel_rfl
theorem aq22 (b : Bool) (k0 k1 k2 k3 : Result → Sem Fin) (w : World) (os : OsState) : GO (nat_lit 917) (W b w) (aL (nat_lit 22) (W b w) os (aG (W b w) os)) (aThL (nat_lit 22) k0 k1 k2 k3) = some (aL (nat_lit 29) (W b w) os (aG (W b w) os), aThL (nat_lit 29) k0 k1 k2 k3) := by
  cases b <;> kernel_rfl
theorem aq29 (b : Bool) (k0 k1 k2 k3 : Result → Sem Fin) (w : World) (os : OsState) : GO (nat_lit 917) (W b w) (aL (nat_lit 29) (W b w) os (aG (W b w) os)) (aThL (nat_lit 29) k0 k1 k2 k3) = some (aL (nat_lit 36) (W b w) os (aG (W b w) os), aThL (nat_lit 36) k0 k1 k2 k3) := by
  cases b <;> kernel_rfl
theorem aq36 (b : Bool) (k0 k1 k2 k3 : Result → Sem Fin) (w : World) (os : OsState) : GO (nat_lit 917) (W b w) (aL (nat_lit 36) (W b w) os (aG (W b w) os)) (aThL (nat_lit 36) k0 k1 k2 k3) = some (aL (nat_lit 43) (W b w) os (aG (W b w) os), aThL (nat_lit 43) k0 k1 k2 k3) := by
  cases b <;> kernel_rfl
theorem aq43 (b : Bool) (k0 k1 k2 k3 : Result → Sem Fin) (w : World) (os : OsState) : GO (nat_lit 917) (W b w) (aL (nat_lit 43) (W b w) os (aG (W b w) os)) (aThL (nat_lit 43) k0 k1 k2 k3) = some (aL (nat_lit 50) (W b w) os (aG (W b w) os), aThL (nat_lit 50) k0 k1 k2 k3) := by
  cases b <;> kernel_rfl
theorem aq50 (b : Bool) (k0 k1 k2 k3 : Result → Sem Fin) (w : World) (os : OsState) : GO (nat_lit 917) (W b w) (aL (nat_lit 50) (W b w) os (aG (W b w) os)) (aThL (nat_lit 50) k0 k1 k2 k3) = some (aL (nat_lit 57) (W b w) os (aG (W b w) os), aThL (nat_lit 57) k0 k1 k2 k3) := by
  cases b <;> kernel_rfl
theorem aq57 (b : Bool) (k0 k1 k2 k3 : Result → Sem Fin) (w : World) (os : OsState) : GO (nat_lit 917) (W b w) (aL (nat_lit 57) (W b w) os (aG (W b w) os)) (aThL (nat_lit 57) k0 k1 k2 k3) = some (aL (nat_lit 64) (W b w) os (aG (W b w) os), aThL (nat_lit 64) k0 k1 k2 k3) := by
  cases b <;> kernel_rfl
theorem ad (b : Bool) (k0 k1 k2 k3 : Result → Sem Fin) (w : World) (os : OsState) : GO (nat_lit 37) (W b w) (aL (nat_lit 64) (W b w) os (aG (W b w) os)) (aThL (nat_lit 64) k0 k1 k2 k3) = some (aSd (W b w) os, aThD k0 k1 k2 k3) := by
  cases b <;> kernel_rfl
theorem ae (b : Bool) (w : World) (os : OsState) : RUN (nat_lit 244) (W b w) (aSd (W b w) os) (aThD (aM (nat_lit 0) (W b w) os) (aM (nat_lit 1) (W b w) os) (aM (nat_lit 2) (W b w) os) (aM (nat_lit 3) (W b w) os)) = some (.next, aSe (W b w) os, MC, (.mk (nat_lit 272) (nat_lit 0) (nat_lit 272) (nat_lit 3))) := by
  cases b <;> kernel_rfl

end Mine
end -- HLa
section -- HLb
open PySem PySem.W PySem.W.X PyProof.Rows
set_option maxHeartbeats 0
namespace Mine
noncomputable def bK (i : Nat) (w : World) (os : OsState) : Result → Sem Fin := kOf (thOf (GO (nat_lit 185) w (bS0 w os) bTh0)).stack i
theorem b1 (b : Bool) (w : World) (os : OsState) : GO (nat_lit 185) (W b w) (bS0 (W b w) os) bTh0 = some (bS1 (W b w) os, bTh1 (bK (nat_lit 0) (W b w) os) (bK (nat_lit 1) (W b w) os) (bK (nat_lit 2) (W b w) os) (bK (nat_lit 3) (W b w) os) (bK (nat_lit 4) (W b w) os)) := by
  cases b <;> kernel_rfl
theorem b2 (b : Bool) (k0 k1 k2 k3 k4 : Result → Sem Fin) (w : World) (os : OsState) : GO (nat_lit 60) (W b w) (bS1 (W b w) os) (bTh1 k0 k1 k2 k3 k4) = some (bS2 (W b w) os, bTh1 k0 k1 k2 k3 k4) := by
  cases b <;> kernel_rfl
theorem b3 (b : Bool) (k0 k1 k2 k3 k4 : Result → Sem Fin) (w : World) (os : OsState) : GO (nat_lit 62) (W b w) (bS2 (W b w) os) (bTh1 k0 k1 k2 k3 k4) = some (bS3 (W b w) os, bTh1 k0 k1 k2 k3 k4) := by
  cases b <;> kernel_rfl
theorem b4 (b : Bool) (k0 k1 k2 k3 k4 : Result → Sem Fin) (w : World) (os : OsState) : GO (nat_lit 60) (W b w) (bS3 (W b w) os) (bTh1 k0 k1 k2 k3 k4) = some (bS4 (W b w) os, bTh1 k0 k1 k2 k3 k4) := by
  cases b <;> kernel_rfl
theorem b5 (b : Bool) (k0 k1 k2 k3 k4 : Result → Sem Fin) (w : World) (os : OsState) : GO (nat_lit 60) (W b w) (bS4 (W b w) os) (bTh1 k0 k1 k2 k3 k4) = some (bS5 (W b w) os, bTh1 k0 k1 k2 k3 k4) := by
  cases b <;> kernel_rfl
theorem b6 (b : Bool) (k0 k1 k2 k3 k4 : Result → Sem Fin) (w : World) (os : OsState) : GO (nat_lit 60) (W b w) (bS5 (W b w) os) (bTh1 k0 k1 k2 k3 k4) = some (bS6 (W b w) os, bTh1 k0 k1 k2 k3 k4) := by
  cases b <;> kernel_rfl
theorem b7 (b : Bool) (k0 k1 k2 k3 k4 : Result → Sem Fin) (w : World) (os : OsState) : GO (nat_lit 62) (W b w) (bS6 (W b w) os) (bTh1 k0 k1 k2 k3 k4) = some (bS7 (W b w) os, bTh1 k0 k1 k2 k3 k4) := by
  cases b <;> kernel_rfl
theorem b8 (b : Bool) (k0 k1 k2 k3 k4 : Result → Sem Fin) (w : World) (os : OsState) : GO (nat_lit 60) (W b w) (bS7 (W b w) os) (bTh1 k0 k1 k2 k3 k4) = some (bS8 (W b w) os, bTh1 k0 k1 k2 k3 k4) := by
  cases b <;> kernel_rfl
theorem b9 (b : Bool) (k0 k1 k2 k3 k4 : Result → Sem Fin) (w : World) (os : OsState) : GO (nat_lit 60) (W b w) (bS8 (W b w) os) (bTh1 k0 k1 k2 k3 k4) = some (bS9 (W b w) os, bTh1 k0 k1 k2 k3 k4) := by
  cases b <;> kernel_rfl
theorem b10 (b : Bool) (k0 k1 k2 k3 k4 : Result → Sem Fin) (w : World) (os : OsState) : GO (nat_lit 60) (W b w) (bS9 (W b w) os) (bTh1 k0 k1 k2 k3 k4) = some (bS10 (W b w) os, bTh1 k0 k1 k2 k3 k4) := by
  cases b <;> kernel_rfl
theorem b11 (b : Bool) (k0 k1 k2 k3 k4 : Result → Sem Fin) (w : World) (os : OsState) : GO (nat_lit 60) (W b w) (bS10 (W b w) os) (bTh1 k0 k1 k2 k3 k4) = some (bS11 (W b w) os, bTh1 k0 k1 k2 k3 k4) := by
  cases b <;> kernel_rfl
theorem b12 (b : Bool) (k0 k1 k2 k3 k4 : Result → Sem Fin) (w : World) (os : OsState) : GO (nat_lit 60) (W b w) (bS11 (W b w) os) (bTh1 k0 k1 k2 k3 k4) = some (bS12 (W b w) os, bTh1 k0 k1 k2 k3 k4) := by
  cases b <;> kernel_rfl
theorem b13 (b : Bool) (k0 k1 k2 k3 k4 : Result → Sem Fin) (w : World) (os : OsState) : GO (nat_lit 60) (W b w) (bS12 (W b w) os) (bTh1 k0 k1 k2 k3 k4) = some (bS13 (W b w) os, bTh1 k0 k1 k2 k3 k4) := by
  cases b <;> kernel_rfl
theorem b14 (b : Bool) (k0 k1 k2 k3 k4 : Result → Sem Fin) (w : World) (os : OsState) : GO (nat_lit 60) (W b w) (bS13 (W b w) os) (bTh1 k0 k1 k2 k3 k4) = some (bS14 (W b w) os, bTh1 k0 k1 k2 k3 k4) := by
  cases b <;> kernel_rfl
theorem b15 (b : Bool) (k0 k1 k2 k3 k4 : Result → Sem Fin) (w : World) (os : OsState) : GO (nat_lit 60) (W b w) (bS14 (W b w) os) (bTh1 k0 k1 k2 k3 k4) = some (bS15 (W b w) os, bTh1 k0 k1 k2 k3 k4) := by
  cases b <;> kernel_rfl
theorem b16 (b : Bool) (k0 k1 k2 k3 k4 : Result → Sem Fin) (w : World) (os : OsState) : GO (nat_lit 60) (W b w) (bS15 (W b w) os) (bTh1 k0 k1 k2 k3 k4) = some (bS16 (W b w) os, bTh1 k0 k1 k2 k3 k4) := by
  cases b <;> kernel_rfl
theorem b17 (b : Bool) (k0 k1 k2 k3 k4 : Result → Sem Fin) (w : World) (os : OsState) : GO (nat_lit 60) (W b w) (bS16 (W b w) os) (bTh1 k0 k1 k2 k3 k4) = some (bS17 (W b w) os, bTh1 k0 k1 k2 k3 k4) := by
  cases b <;> kernel_rfl
theorem b18 (b : Bool) (k0 k1 k2 k3 k4 : Result → Sem Fin) (w : World) (os : OsState) : GO (nat_lit 60) (W b w) (bS17 (W b w) os) (bTh1 k0 k1 k2 k3 k4) = some (bS18 (W b w) os, bTh1 k0 k1 k2 k3 k4) := by
  cases b <;> kernel_rfl
theorem b19 (b : Bool) (k0 k1 k2 k3 k4 : Result → Sem Fin) (w : World) (os : OsState) : GO (nat_lit 60) (W b w) (bS18 (W b w) os) (bTh1 k0 k1 k2 k3 k4) = some (bS19 (W b w) os, bTh1 k0 k1 k2 k3 k4) := by
  cases b <;> kernel_rfl
theorem b20 (b : Bool) (k0 k1 k2 k3 k4 : Result → Sem Fin) (w : World) (os : OsState) : GO (nat_lit 60) (W b w) (bS19 (W b w) os) (bTh1 k0 k1 k2 k3 k4) = some (bS20 (W b w) os, bTh1 k0 k1 k2 k3 k4) := by
  cases b <;> kernel_rfl
theorem b21 (b : Bool) (k0 k1 k2 k3 k4 : Result → Sem Fin) (w : World) (os : OsState) : GO (nat_lit 60) (W b w) (bS20 (W b w) os) (bTh1 k0 k1 k2 k3 k4) = some (bS21 (W b w) os, bTh1 k0 k1 k2 k3 k4) := by
  cases b <;> kernel_rfl
theorem b22 (b : Bool) (k0 k1 k2 k3 k4 : Result → Sem Fin) (w : World) (os : OsState) : GO (nat_lit 60) (W b w) (bS21 (W b w) os) (bTh1 k0 k1 k2 k3 k4) = some (bS22 (W b w) os, bTh1 k0 k1 k2 k3 k4) := by
  cases b <;> kernel_rfl
theorem b23 (b : Bool) (k0 k1 k2 k3 k4 : Result → Sem Fin) (w : World) (os : OsState) : GO (nat_lit 14) (W b w) (bS22 (W b w) os) (bTh1 k0 k1 k2 k3 k4) = some (bS23 (W b w) os, bTh23 k0 k1 k2 k3 k4) := by
  cases b <;> kernel_rfl
noncomputable def bM (i : Nat) (w : World) (os : OsState) : Result → Sem Fin := kOf (thOf (GO (nat_lit 205) w (bS23 w os) (bTh23 (bK (nat_lit 0) w os) (bK (nat_lit 1) w os) (bK (nat_lit 2) w os) (bK (nat_lit 3) w os) (bK (nat_lit 4) w os)))).stack i
theorem b24 (b : Bool) (w : World) (os : OsState) : GO (nat_lit 205) (W b w) (bS23 (W b w) os) (bTh23 (bK (nat_lit 0) (W b w) os) (bK (nat_lit 1) (W b w) os) (bK (nat_lit 2) (W b w) os) (bK (nat_lit 3) (W b w) os) (bK (nat_lit 4) (W b w) os)) = some (bS24 (W b w) os, bTh24 (bM (nat_lit 0) (W b w) os) (bM (nat_lit 1) (W b w) os) (bM (nat_lit 2) (W b w) os) (bM (nat_lit 3) (W b w) os)) := by
  cases b <;> kernel_rfl
noncomputable def bG (w : World) (os : OsState) : Resume → Sem Fin := gOf (shOf (GO (nat_lit 132) (CI true w) (bS24 (CI true w) os) (bTh24 (fun _ => .raise .none) (fun _ => .raise .none) (fun _ => .raise .none) (fun _ => .raise .none)))).gens.toList
theorem bftrue (b : Bool) (k0 k1 k2 k3 : Result → Sem Fin) (w : World) (os : OsState) : GO (nat_lit 132) (W b (CI true w)) (bS24 (W b (CI true w)) os) (bTh24 k0 k1 k2 k3) = some (bL (nat_lit 1) (W b (CI true w)) os (bG (W b (CI true w)) os), bThL (nat_lit 1) k0 k1 k2 k3) := by
  cases b <;> kernel_rfl
theorem bffalse (b : Bool) (k0 k1 k2 k3 : Result → Sem Fin) (w : World) (os : OsState) : GO (nat_lit 142) (W b (CI false w)) (bS24 (W b (CI false w)) os) (bTh24 k0 k1 k2 k3) = some (bL (nat_lit 1) (W b (CI false w)) os (bG (W b (CI false w)) os), bThL (nat_lit 1) k0 k1 k2 k3) := by
  cases b <;> kernel_rfl
theorem bq1 (b : Bool) (k0 k1 k2 k3 : Result → Sem Fin) (w : World) (os : OsState) : GO (nat_lit 917) (W b w) (bL (nat_lit 1) (W b w) os (bG (W b w) os)) (bThL (nat_lit 1) k0 k1 k2 k3) = some (bL (nat_lit 8) (W b w) os (bG (W b w) os), bThL (nat_lit 8) k0 k1 k2 k3) := by
  cases b <;> kernel_rfl
theorem bq8 (b : Bool) (k0 k1 k2 k3 : Result → Sem Fin) (w : World) (os : OsState) : GO (nat_lit 917) (W b w) (bL (nat_lit 8) (W b w) os (bG (W b w) os)) (bThL (nat_lit 8) k0 k1 k2 k3) = some (bL (nat_lit 15) (W b w) os (bG (W b w) os), bThL (nat_lit 15) k0 k1 k2 k3) := by
  cases b <;> kernel_rfl
theorem bq15 (b : Bool) (k0 k1 k2 k3 : Result → Sem Fin) (w : World) (os : OsState) : GO (nat_lit 917) (W b w) (bL (nat_lit 15) (W b w) os (bG (W b w) os)) (bThL (nat_lit 15) k0 k1 k2 k3) = some (bL (nat_lit 22) (W b w) os (bG (W b w) os), bThL (nat_lit 22) k0 k1 k2 k3) := by
  cases b <;> kernel_rfl
theorem bq22 (b : Bool) (k0 k1 k2 k3 : Result → Sem Fin) (w : World) (os : OsState) : GO (nat_lit 917) (W b w) (bL (nat_lit 22) (W b w) os (bG (W b w) os)) (bThL (nat_lit 22) k0 k1 k2 k3) = some (bL (nat_lit 29) (W b w) os (bG (W b w) os), bThL (nat_lit 29) k0 k1 k2 k3) := by
  cases b <;> kernel_rfl
theorem bq29 (b : Bool) (k0 k1 k2 k3 : Result → Sem Fin) (w : World) (os : OsState) : GO (nat_lit 917) (W b w) (bL (nat_lit 29) (W b w) os (bG (W b w) os)) (bThL (nat_lit 29) k0 k1 k2 k3) = some (bL (nat_lit 36) (W b w) os (bG (W b w) os), bThL (nat_lit 36) k0 k1 k2 k3) := by
  cases b <;> kernel_rfl
theorem bq36 (b : Bool) (k0 k1 k2 k3 : Result → Sem Fin) (w : World) (os : OsState) : GO (nat_lit 917) (W b w) (bL (nat_lit 36) (W b w) os (bG (W b w) os)) (bThL (nat_lit 36) k0 k1 k2 k3) = some (bL (nat_lit 43) (W b w) os (bG (W b w) os), bThL (nat_lit 43) k0 k1 k2 k3) := by
  cases b <;> kernel_rfl
theorem bq43 (b : Bool) (k0 k1 k2 k3 : Result → Sem Fin) (w : World) (os : OsState) : GO (nat_lit 917) (W b w) (bL (nat_lit 43) (W b w) os (bG (W b w) os)) (bThL (nat_lit 43) k0 k1 k2 k3) = some (bL (nat_lit 50) (W b w) os (bG (W b w) os), bThL (nat_lit 50) k0 k1 k2 k3) := by
  cases b <;> kernel_rfl
theorem bq50 (b : Bool) (k0 k1 k2 k3 : Result → Sem Fin) (w : World) (os : OsState) : GO (nat_lit 917) (W b w) (bL (nat_lit 50) (W b w) os (bG (W b w) os)) (bThL (nat_lit 50) k0 k1 k2 k3) = some (bL (nat_lit 57) (W b w) os (bG (W b w) os), bThL (nat_lit 57) k0 k1 k2 k3) := by
  cases b <;> kernel_rfl
theorem bq57 (b : Bool) (k0 k1 k2 k3 : Result → Sem Fin) (w : World) (os : OsState) : GO (nat_lit 917) (W b w) (bL (nat_lit 57) (W b w) os (bG (W b w) os)) (bThL (nat_lit 57) k0 k1 k2 k3) = some (bL (nat_lit 64) (W b w) os (bG (W b w) os), bThL (nat_lit 64) k0 k1 k2 k3) := by
  cases b <;> kernel_rfl
theorem bd (b : Bool) (k0 k1 k2 k3 : Result → Sem Fin) (w : World) (os : OsState) : GO (nat_lit 37) (W b w) (bL (nat_lit 64) (W b w) os (bG (W b w) os)) (bThL (nat_lit 64) k0 k1 k2 k3) = some (bSd (W b w) os, bThD k0 k1 k2 k3) := by
  cases b <;> kernel_rfl
theorem be (b : Bool) (w : World) (os : OsState) : RUN (nat_lit 244) (W b w) (bSd (W b w) os) (bThD (bM (nat_lit 0) (W b w) os) (bM (nat_lit 1) (W b w) os) (bM (nat_lit 2) (W b w) os) (bM (nat_lit 3) (W b w) os)) = some (.next, bSe (W b w) os, MC, (.mk (nat_lit 273) (nat_lit 0) (nat_lit 273) (nat_lit 6))) := by
  cases b <;> kernel_rfl

end Mine
end -- HLb
section -- HLr
open PySem PySem.W PySem.W.X PyProof.Rows
set_option maxHeartbeats 0
namespace Mine
theorem r1 (w : World) (os : OsState) : RUN (nat_lit 37) w (bSe w os) ⟨(EX (grp (nat_lit 24) (nat_lit 4)) ME).wrap doneF deadEnd id id, MC, (.mk (nat_lit 273) (nat_lit 0) (nat_lit 273) (nat_lit 6)), [CF]⟩ = some (.next, r1S w os, MC, (.mk (nat_lit 277) (nat_lit 0) (nat_lit 277) (nat_lit 8))) := by
  kernel_rfl
theorem r2 (w : World) (os : OsState) : RUN (nat_lit 299) w (r1S w os) ⟨(EX (grp (nat_lit 28) (nat_lit 1)) ME).wrap doneF deadEnd id id, MC, (.mk (nat_lit 277) (nat_lit 0) (nat_lit 277) (nat_lit 8)), [CF]⟩ = some (.next, r2S w os, MC, (.mk (nat_lit 278) (nat_lit 0) (nat_lit 278) (nat_lit 6))) := by
  kernel_rfl
theorem r3 (w : World) (os : OsState) : RUN (nat_lit 299) w (r2S w os) ⟨(EX (grp (nat_lit 29) (nat_lit 1)) ME).wrap doneF deadEnd id id, MC, (.mk (nat_lit 278) (nat_lit 0) (nat_lit 278) (nat_lit 6)), [CF]⟩ = some (.next, r3S w os, MC, (.mk (nat_lit 279) (nat_lit 0) (nat_lit 279) (nat_lit 7))) := by
  kernel_rfl
theorem r4 (w : World) (os : OsState) : RUN (nat_lit 299) w (r3S w os) ⟨(EX (grp (nat_lit 30) (nat_lit 1)) ME).wrap doneF deadEnd id id, MC, (.mk (nat_lit 279) (nat_lit 0) (nat_lit 279) (nat_lit 7)), [CF]⟩ = some (.next, r4S w os, MC, (.mk (nat_lit 280) (nat_lit 0) (nat_lit 280) (nat_lit 7))) := by
  kernel_rfl
theorem r5 (w : World) (os : OsState) : RUN (nat_lit 213) w (r4S w os) ⟨(EX (grp (nat_lit 31) (nat_lit 2)) ME).wrap doneF deadEnd id id, MC, (.mk (nat_lit 280) (nat_lit 0) (nat_lit 280) (nat_lit 7)), [CF]⟩ = some (.next, r5S w os, MC, (.mk (nat_lit 282) (nat_lit 0) (nat_lit 282) (nat_lit 6))) := by
  kernel_rfl
theorem r6 (w : World) (os : OsState) : RUN (nat_lit 539) w (r5S w os) ⟨(EX (grp (nat_lit 33) (nat_lit 1)) ME).wrap doneF deadEnd id id, MC, (.mk (nat_lit 282) (nat_lit 0) (nat_lit 282) (nat_lit 6)), [CF]⟩ = some (.next, r6S w os, MC, (.mk (nat_lit 283) (nat_lit 0) (nat_lit 283) (nat_lit 3))) := by
  kernel_rfl
theorem r7 (w : World) (os : OsState) : RUN (nat_lit 331) w (r6S w os) ⟨(EX (grp (nat_lit 34) (nat_lit 2)) ME).wrap doneF deadEnd id id, MC, (.mk (nat_lit 283) (nat_lit 0) (nat_lit 283) (nat_lit 3)), [CF]⟩ = some (.next, r7S w os, MC, (.mk (nat_lit 285) (nat_lit 0) (nat_lit 290) (nat_lit 14))) := by
  kernel_rfl
theorem r8 (w : World) (os : OsState) : RUN (nat_lit 201) w (r7S w os) ⟨(EX (grp (nat_lit 36) (nat_lit 7)) ME).wrap doneF deadEnd id id, MC, (.mk (nat_lit 285) (nat_lit 0) (nat_lit 290) (nat_lit 14)), [CF]⟩ = some (.next, r8S w os, MC, (.mk (nat_lit 357) (nat_lit 0) (nat_lit 366) (nat_lit 38))) := by
  kernel_rfl
theorem r9 (w : World) (os : OsState) : RUN (nat_lit 204) w (r8S w os) ⟨(EX (grp (nat_lit 43) (nat_lit 1)) ME).wrap doneF deadEnd id id, MC, (.mk (nat_lit 357) (nat_lit 0) (nat_lit 366) (nat_lit 38)), [CF]⟩ = some (.next, r9S w os, MC, (.mk (nat_lit 367) (nat_lit 0) (nat_lit 368) (nat_lit 22))) := by
  kernel_rfl
theorem r10 (w : World) (os : OsState) : RUN (nat_lit 240) w (r9S w os) ⟨(EX (grp (nat_lit 44) (nat_lit 5)) ME).wrap doneF deadEnd id id, MC, (.mk (nat_lit 367) (nat_lit 0) (nat_lit 368) (nat_lit 22)), [CF]⟩ = some (.next, r10S w os, MC, (.mk (nat_lit 374) (nat_lit 0) (nat_lit 374) (nat_lit 10))) := by
  kernel_rfl
theorem r11 (w : World) (os : OsState) : RUN (nat_lit 149) w (r10S w os) ⟨(EX (grp (nat_lit 49) (nat_lit 3)) ME).wrap doneF deadEnd id id, MC, (.mk (nat_lit 374) (nat_lit 0) (nat_lit 374) (nat_lit 10)), [CF]⟩ = some (.next, r11S w os, MC, (.mk (nat_lit 377) (nat_lit 0) (nat_lit 412) (nat_lit 74))) := by
  kernel_rfl
theorem r12 (w : World) (os : OsState) : RUN (nat_lit 316) w (r11S w os) ⟨(EX (grp (nat_lit 52) (nat_lit 4)) ME).wrap doneF deadEnd id id, MC, (.mk (nat_lit 377) (nat_lit 0) (nat_lit 412) (nat_lit 74)), [CF]⟩ = some (.next, r12S w os, MC, (.mk (nat_lit 417) (nat_lit 0) (nat_lit 417) (nat_lit 27))) := by
  kernel_rfl
theorem r13 (w : World) (os : OsState) : RUN (nat_lit 145) w (r12S w os) ⟨(EX (grp (nat_lit 56) (nat_lit 3)) ME).wrap doneF deadEnd id id, MC, (.mk (nat_lit 417) (nat_lit 0) (nat_lit 417) (nat_lit 27)), [CF]⟩ = some (.next, r13S w os, MC, (.mk (nat_lit 420) (nat_lit 0) (nat_lit 474) (nat_lit 73))) := by
  kernel_rfl
theorem r14 (w : World) (os : OsState) : RUN (nat_lit 204) w (r13S w os) ⟨(EX (grp (nat_lit 59) (nat_lit 1)) ME).wrap doneF deadEnd id id, MC, (.mk (nat_lit 420) (nat_lit 0) (nat_lit 474) (nat_lit 73)), [CF]⟩ = some (.next, r14S w os, MC, (.mk (nat_lit 475) (nat_lit 0) (nat_lit 476) (nat_lit 25))) := by
  kernel_rfl
theorem r15 (w : World) (os : OsState) : RUN (nat_lit 306) w (r14S w os) ⟨(EX (grp (nat_lit 60) (nat_lit 5)) ME).wrap doneF deadEnd id id, MC, (.mk (nat_lit 475) (nat_lit 0) (nat_lit 476) (nat_lit 25)), [CF]⟩ = some (.next, r15S w os, MC, (.mk (nat_lit 484) (nat_lit 0) (nat_lit 504) (nat_lit 18))) := by
  kernel_rfl
theorem r16 (w : World) (os : OsState) : RUN (nat_lit 235) w (r15S w os) ⟨(EX (grp (nat_lit 65) (nat_lit 8)) ME).wrap doneF deadEnd id id, MC, (.mk (nat_lit 484) (nat_lit 0) (nat_lit 504) (nat_lit 18)), [CF]⟩ = some (.next, r16S w os, MC, (.mk (nat_lit 558) (nat_lit 0) (nat_lit 576) (nat_lit 15))) := by
  kernel_rfl

end Mine
end -- HLr
section -- HY2
open PySem PySem.W PySem.W.X PyProof.Rows
set_option maxHeartbeats 0
namespace Mine
theorem GO_eq (n : Nat) (w : World) (s : SharedT) (t : Thread) : GO n w s t = segGoT treeTable PySem.Challenge.pw_aj5038_01 w 11 (some (.ref 6)) 1 n s t := by
  unfold GO TB
  rw [← PySem.W.Fast.te10295753902157049106, ← PySem.W.Fast.te14364793385576792824]
theorem RUN_eq (n : Nat) (w : World) (s : SharedT) (t : Thread) : RUN n w s t = segRunT treeTable PySem.Challenge.pw_aj5038_01 w 11 (some (.ref 6)) 1 n s t := by
  unfold RUN TB
  rw [← PySem.W.Fast.te10110043849684766642, ← PySem.W.Fast.te14364793385576792824]
theorem EX_eq : EX = execs := by
  unfold EX
  rw [← PySem.W.Fast.te12563942051412417395]
theorem ME_eq : ME = pre.env_1 := by
  unfold ME
  rw [← PySem.W.Fast.te16393207145280961055]
theorem T22_eq : T22 = pre.tree_434 := by
  unfold T22
  rw [← PySem.W.Fast.te3628191734232801947]
abbrev SG (w : World) (n : Nat) (s : Shared) (t : Thread) := segGo treeTable PySem.Challenge.pw_aj5038_01 w 11 (some (.ref 6)) 1 n s t
abbrev SR (w : World) (n : Nat) (s : Shared) (t : Thread) := segRun treeTable PySem.Challenge.pw_aj5038_01 w 11 (some (.ref 6)) 1 n s t
theorem go_of {n : Nat} {w : World} {s s' : SharedT} {t t' : Thread} (h : GO n w s t = some (s', t')) : SG w n s.abs t = some (s'.abs, t') := by
  rw [GO_eq] at h
  exact segGo_of h
theorem run_of {n : Nat} {w : World} {s s' : SharedT} {t : Thread} {f : Flow} {c : Code} {p : Pos} (h : RUN n w s t = some (f, s', c, p)) : SR w n s.abs t = some (f, s'.abs, c, p) := by
  rw [RUN_eq] at h
  exact segRun_of h
/-- the run goes on to 'r', within B steps -/
def Ends (w : World) (B : Nat) (s : Shared) (t : Thread) (r : Flow × Shared × Code × Pos) : Prop := ∃ n, n ≤ B ∧ SR w n s t = some r
theorem Ends.go {w : World} {n B : Nat} {s s' : SharedT} {t t' : Thread} {r : Flow × Shared × Code × Pos} (h : GO n w s t = some (s', t')) (k : Ends w B s'.abs t' r) : Ends w (n + B) s.abs t r := by
  obtain ⟨m, hm, e⟩ := k
  exact ⟨n + m, Nat.add_le_add_left hm n, seg_go (go_of h) e⟩
theorem Ends.stop {w : World} {n : Nat} {s s' : SharedT} {t : Thread} {f : Flow} {c : Code} {p : Pos} (h : RUN n w s t = some (f, s', c, p)) : Ends w n s.abs t (f, s'.abs, c, p) := ⟨n, Nat.le_refl n, run_of h⟩
theorem aEnds (w : World) (os : OsState) : Ends w 10500 (aS0 w os).abs aTh0 (.next, (aSe w os).abs, MC, ⟨272, 0, 272, 3⟩) := by
  have e1 : W (w.params.followText "special-get-raises") w = w := World.withFollow_self w _
  have e3 : CI (w.params.followText "comprehension-iter-twice") w = w := World.withFollow_self w _
  generalize w.params.followText "special-get-raises" = b at e1
  generalize w.params.followText "comprehension-iter-twice" = d at e3
  have h1 := a1 b w os
  have h24 := a24 b w os
  have he := ae b w os
  rw [e1] at h1 h24 he
  have h2 := a2 b (aK 0 w os) (aK 1 w os) (aK 2 w os) (aK 3 w os) (aK 4 w os) w os
  have h3 := a3 b (aK 0 w os) (aK 1 w os) (aK 2 w os) (aK 3 w os) (aK 4 w os) w os
  have h4 := a4 b (aK 0 w os) (aK 1 w os) (aK 2 w os) (aK 3 w os) (aK 4 w os) w os
  have h5 := a5 b (aK 0 w os) (aK 1 w os) (aK 2 w os) (aK 3 w os) (aK 4 w os) w os
  have h6 := a6 b (aK 0 w os) (aK 1 w os) (aK 2 w os) (aK 3 w os) (aK 4 w os) w os
  have h7 := a7 b (aK 0 w os) (aK 1 w os) (aK 2 w os) (aK 3 w os) (aK 4 w os) w os
  have h8 := a8 b (aK 0 w os) (aK 1 w os) (aK 2 w os) (aK 3 w os) (aK 4 w os) w os
  have h9 := a9 b (aK 0 w os) (aK 1 w os) (aK 2 w os) (aK 3 w os) (aK 4 w os) w os
  have h10 := a10 b (aK 0 w os) (aK 1 w os) (aK 2 w os) (aK 3 w os) (aK 4 w os) w os
  have h11 := a11 b (aK 0 w os) (aK 1 w os) (aK 2 w os) (aK 3 w os) (aK 4 w os) w os
  have h12 := a12 b (aK 0 w os) (aK 1 w os) (aK 2 w os) (aK 3 w os) (aK 4 w os) w os
  have h13 := a13 b (aK 0 w os) (aK 1 w os) (aK 2 w os) (aK 3 w os) (aK 4 w os) w os
  have h14 := a14 b (aK 0 w os) (aK 1 w os) (aK 2 w os) (aK 3 w os) (aK 4 w os) w os
  have h15 := a15 b (aK 0 w os) (aK 1 w os) (aK 2 w os) (aK 3 w os) (aK 4 w os) w os
  have h16 := a16 b (aK 0 w os) (aK 1 w os) (aK 2 w os) (aK 3 w os) (aK 4 w os) w os
  have h17 := a17 b (aK 0 w os) (aK 1 w os) (aK 2 w os) (aK 3 w os) (aK 4 w os) w os
  have h18 := a18 b (aK 0 w os) (aK 1 w os) (aK 2 w os) (aK 3 w os) (aK 4 w os) w os
  have h19 := a19 b (aK 0 w os) (aK 1 w os) (aK 2 w os) (aK 3 w os) (aK 4 w os) w os
  have h20 := a20 b (aK 0 w os) (aK 1 w os) (aK 2 w os) (aK 3 w os) (aK 4 w os) w os
  have h21 := a21 b (aK 0 w os) (aK 1 w os) (aK 2 w os) (aK 3 w os) (aK 4 w os) w os
  have h22 := a22 b (aK 0 w os) (aK 1 w os) (aK 2 w os) (aK 3 w os) (aK 4 w os) w os
  have h23 := a23 b (aK 0 w os) (aK 1 w os) (aK 2 w os) (aK 3 w os) (aK 4 w os) w os
  have g0 := aq1 b (aM 0 w os) (aM 1 w os) (aM 2 w os) (aM 3 w os) w os
  have g1 := aq8 b (aM 0 w os) (aM 1 w os) (aM 2 w os) (aM 3 w os) w os
  have g2 := aq15 b (aM 0 w os) (aM 1 w os) (aM 2 w os) (aM 3 w os) w os
  have g3 := aq22 b (aM 0 w os) (aM 1 w os) (aM 2 w os) (aM 3 w os) w os
  have g4 := aq29 b (aM 0 w os) (aM 1 w os) (aM 2 w os) (aM 3 w os) w os
  have g5 := aq36 b (aM 0 w os) (aM 1 w os) (aM 2 w os) (aM 3 w os) w os
  have g6 := aq43 b (aM 0 w os) (aM 1 w os) (aM 2 w os) (aM 3 w os) w os
  have g7 := aq50 b (aM 0 w os) (aM 1 w os) (aM 2 w os) (aM 3 w os) w os
  have g8 := aq57 b (aM 0 w os) (aM 1 w os) (aM 2 w os) (aM 3 w os) w os
  have hd := ad b (aM 0 w os) (aM 1 w os) (aM 2 w os) (aM 3 w os) w os
  rw [e1] at h2 h3 h4 h5 h6 h7 h8 h9 h10 h11 h12 h13 h14 h15 h16 h17 h18 h19 h20 h21 h22 h23 g0 g1 g2 g3 g4 g5 g6 g7 g8 hd
  have tail : Ends w 8600 (aL 1 w os (aG w os)).abs (aThL 1 (aM 0 w os) (aM 1 w os) (aM 2 w os) (aM 3 w os)) (.next, (aSe w os).abs, MC, ⟨272, 0, 272, 3⟩) := by
    obtain ⟨m, hm, e⟩ := ((((((((((Ends.stop he).go hd).go g8).go g7).go g6).go g5).go g4).go g3).go g2).go g1).go g0
    exact ⟨m, Nat.le_trans hm (by decide), e⟩
  have body : Ends w 8742 (aS24 w os).abs (aTh24 (aM 0 w os) (aM 1 w os) (aM 2 w os) (aM 3 w os)) (.next, (aSe w os).abs, MC, ⟨272, 0, 272, 3⟩) := by
    cases d with
    | true =>
      have f := aftrue b (aM 0 w os) (aM 1 w os) (aM 2 w os) (aM 3 w os) w os
      rw [e3, e1] at f
      obtain ⟨m, hm, e⟩ := tail.go f
      exact ⟨m, Nat.le_trans hm (by decide), e⟩
    | false =>
      have f := affalse b (aM 0 w os) (aM 1 w os) (aM 2 w os) (aM 3 w os) w os
      rw [e3, e1] at f
      obtain ⟨m, hm, e⟩ := tail.go f
      exact ⟨m, Nat.le_trans hm (by decide), e⟩
  obtain ⟨m, hm, e⟩ := ((((((((((((((((((((((((body).go h24).go h23).go h22).go h21).go h20).go h19).go h18).go h17).go h16).go h15).go h14).go h13).go h12).go h11).go h10).go h9).go h8).go h7).go h6).go h5).go h4).go h3).go h2).go h1
  exact ⟨m, Nat.le_trans hm (by decide), e⟩
theorem bEnds (w : World) (os : OsState) : Ends w 10500 (bS0 w os).abs bTh0 (.next, (bSe w os).abs, MC, ⟨273, 0, 273, 6⟩) := by
  have e1 : W (w.params.followText "special-get-raises") w = w := World.withFollow_self w _
  have e3 : CI (w.params.followText "comprehension-iter-twice") w = w := World.withFollow_self w _
  generalize w.params.followText "special-get-raises" = b at e1
  generalize w.params.followText "comprehension-iter-twice" = d at e3
  have h1 := b1 b w os
  have h24 := b24 b w os
  have he := be b w os
  rw [e1] at h1 h24 he
  have h2 := b2 b (bK 0 w os) (bK 1 w os) (bK 2 w os) (bK 3 w os) (bK 4 w os) w os
  have h3 := b3 b (bK 0 w os) (bK 1 w os) (bK 2 w os) (bK 3 w os) (bK 4 w os) w os
  have h4 := b4 b (bK 0 w os) (bK 1 w os) (bK 2 w os) (bK 3 w os) (bK 4 w os) w os
  have h5 := b5 b (bK 0 w os) (bK 1 w os) (bK 2 w os) (bK 3 w os) (bK 4 w os) w os
  have h6 := b6 b (bK 0 w os) (bK 1 w os) (bK 2 w os) (bK 3 w os) (bK 4 w os) w os
  have h7 := b7 b (bK 0 w os) (bK 1 w os) (bK 2 w os) (bK 3 w os) (bK 4 w os) w os
  have h8 := b8 b (bK 0 w os) (bK 1 w os) (bK 2 w os) (bK 3 w os) (bK 4 w os) w os
  have h9 := b9 b (bK 0 w os) (bK 1 w os) (bK 2 w os) (bK 3 w os) (bK 4 w os) w os
  have h10 := b10 b (bK 0 w os) (bK 1 w os) (bK 2 w os) (bK 3 w os) (bK 4 w os) w os
  have h11 := b11 b (bK 0 w os) (bK 1 w os) (bK 2 w os) (bK 3 w os) (bK 4 w os) w os
  have h12 := b12 b (bK 0 w os) (bK 1 w os) (bK 2 w os) (bK 3 w os) (bK 4 w os) w os
  have h13 := b13 b (bK 0 w os) (bK 1 w os) (bK 2 w os) (bK 3 w os) (bK 4 w os) w os
  have h14 := b14 b (bK 0 w os) (bK 1 w os) (bK 2 w os) (bK 3 w os) (bK 4 w os) w os
  have h15 := b15 b (bK 0 w os) (bK 1 w os) (bK 2 w os) (bK 3 w os) (bK 4 w os) w os
  have h16 := b16 b (bK 0 w os) (bK 1 w os) (bK 2 w os) (bK 3 w os) (bK 4 w os) w os
  have h17 := b17 b (bK 0 w os) (bK 1 w os) (bK 2 w os) (bK 3 w os) (bK 4 w os) w os
  have h18 := b18 b (bK 0 w os) (bK 1 w os) (bK 2 w os) (bK 3 w os) (bK 4 w os) w os
  have h19 := b19 b (bK 0 w os) (bK 1 w os) (bK 2 w os) (bK 3 w os) (bK 4 w os) w os
  have h20 := b20 b (bK 0 w os) (bK 1 w os) (bK 2 w os) (bK 3 w os) (bK 4 w os) w os
  have h21 := b21 b (bK 0 w os) (bK 1 w os) (bK 2 w os) (bK 3 w os) (bK 4 w os) w os
  have h22 := b22 b (bK 0 w os) (bK 1 w os) (bK 2 w os) (bK 3 w os) (bK 4 w os) w os
  have h23 := b23 b (bK 0 w os) (bK 1 w os) (bK 2 w os) (bK 3 w os) (bK 4 w os) w os
  have g0 := bq1 b (bM 0 w os) (bM 1 w os) (bM 2 w os) (bM 3 w os) w os
  have g1 := bq8 b (bM 0 w os) (bM 1 w os) (bM 2 w os) (bM 3 w os) w os
  have g2 := bq15 b (bM 0 w os) (bM 1 w os) (bM 2 w os) (bM 3 w os) w os
  have g3 := bq22 b (bM 0 w os) (bM 1 w os) (bM 2 w os) (bM 3 w os) w os
  have g4 := bq29 b (bM 0 w os) (bM 1 w os) (bM 2 w os) (bM 3 w os) w os
  have g5 := bq36 b (bM 0 w os) (bM 1 w os) (bM 2 w os) (bM 3 w os) w os
  have g6 := bq43 b (bM 0 w os) (bM 1 w os) (bM 2 w os) (bM 3 w os) w os
  have g7 := bq50 b (bM 0 w os) (bM 1 w os) (bM 2 w os) (bM 3 w os) w os
  have g8 := bq57 b (bM 0 w os) (bM 1 w os) (bM 2 w os) (bM 3 w os) w os
  have hd := bd b (bM 0 w os) (bM 1 w os) (bM 2 w os) (bM 3 w os) w os
  rw [e1] at h2 h3 h4 h5 h6 h7 h8 h9 h10 h11 h12 h13 h14 h15 h16 h17 h18 h19 h20 h21 h22 h23 g0 g1 g2 g3 g4 g5 g6 g7 g8 hd
  have tail : Ends w 8600 (bL 1 w os (bG w os)).abs (bThL 1 (bM 0 w os) (bM 1 w os) (bM 2 w os) (bM 3 w os)) (.next, (bSe w os).abs, MC, ⟨273, 0, 273, 6⟩) := by
    obtain ⟨m, hm, e⟩ := ((((((((((Ends.stop he).go hd).go g8).go g7).go g6).go g5).go g4).go g3).go g2).go g1).go g0
    exact ⟨m, Nat.le_trans hm (by decide), e⟩
  have body : Ends w 8742 (bS24 w os).abs (bTh24 (bM 0 w os) (bM 1 w os) (bM 2 w os) (bM 3 w os)) (.next, (bSe w os).abs, MC, ⟨273, 0, 273, 6⟩) := by
    cases d with
    | true =>
      have f := bftrue b (bM 0 w os) (bM 1 w os) (bM 2 w os) (bM 3 w os) w os
      rw [e3, e1] at f
      obtain ⟨m, hm, e⟩ := tail.go f
      exact ⟨m, Nat.le_trans hm (by decide), e⟩
    | false =>
      have f := bffalse b (bM 0 w os) (bM 1 w os) (bM 2 w os) (bM 3 w os) w os
      rw [e3, e1] at f
      obtain ⟨m, hm, e⟩ := tail.go f
      exact ⟨m, Nat.le_trans hm (by decide), e⟩
  obtain ⟨m, hm, e⟩ := ((((((((((((((((((((((((body).go h24).go h23).go h22).go h21).go h20).go h19).go h18).go h17).go h16).go h15).go h14).go h13).go h12).go h11).go h10).go h9).go h8).go h7).go h6).go h5).go h4).go h3).go h2).go h1
  exact ⟨m, Nat.le_trans hm (by decide), e⟩

theorem ta_dr (l : List Stmt) : ∀ (k : Nat), taS l k ++ drS l k = l := by
  induction l with
  | nil => intro k; cases k <;> rfl
  | cons a r ih =>
    intro k
    cases k with
    | zero => rfl
    | succ n => show a :: (taS r n ++ drS r n) = a :: r; rw [ih n]
theorem dr_dr (l : List Stmt) : ∀ (i k : Nat), drS (drS l i) k = drS l (i + k) := by
  induction l with
  | nil => intro i k; cases i <;> cases k <;> rfl
  | cons a r ih =>
    intro i k
    cases i with
    | zero => rw [Nat.zero_add]; rfl
    | succ n => rw [Nat.succ_add]; exact ih n k
theorem grp_app (i k : Nat) : grp i k ++ drS MB (i + k) = drS MB i := by
  unfold grp
  rw [← dr_dr]
  exact ta_dr _ _
/-- behind the i-th statement the top comes to 'r' -/
def TR (w : World) (B i : Nat) (pos : Pos) (s r : Shared) : Prop := ∃ N, N ≤ B ∧ topRun treeTable PySem.Challenge.pw_aj5038_01 w 11 (some (.ref 6)) N s (restOf (drS MB i) ME MC pos [CF]) = some r
theorem TR.grp {w : World} {B m i k : Nat} {s s' r : Shared} {pos pos' : Pos} (h : Ends w m s (piecesOf (grp i k) ME MC pos [CF]) (.next, s', MC, pos')) (g : TR w B (i + k) pos' s' r) : TR w (m + B) i pos s r := by
  obtain ⟨n, hn, e⟩ := h
  obtain ⟨N, hN, f⟩ := g
  refine ⟨n + N, Nat.add_le_add hn hN, ?_⟩
  rw [← grp_app i k]
  exact piece_app (q := ⟨0, 0, 0, 0⟩) e f
theorem TR.run {w : World} {B n i k : Nat} {s s' : SharedT} {r : Shared} {pos pos' : Pos} (h : RUN n w s ⟨(EX (Mine.grp i k) ME).wrap doneF deadEnd id id, MC, pos, [CF]⟩ = some (.next, s', MC, pos')) (g : TR w B (i + k) pos' s'.abs r) : TR w (n + B) i pos s.abs r := by
  rw [EX_eq] at h
  exact TR.grp (Ends.stop h) g
theorem aSt_eq : aSt = Mine.grp 22 1 := by kernel_rfl
theorem bSt_eq : bSt = Mine.grp 23 1 := by kernel_rfl
theorem drs_end : drS MB 73 = [] := by kernel_rfl

theorem fin_run (w : World) (os : OsState) : TR w 2 73 ⟨558, 0, 576, 15⟩ (r16S w os).abs (r16S w os).abs := by
  refine ⟨2, Nat.le_refl 2, ?_⟩
  rw [drs_end]
  exact piece_nil (q := ⟨0, 0, 0, 0⟩) rfl
theorem rest_run (w : World) (os : OsState) : TR w 30000 22 ⟨270, 0, 271, 21⟩ (aS0 w os).abs (r16S w os).abs := by
  have h := fin_run w os
  replace h := TR.run (r16 w os) h
  replace h := TR.run (r15 w os) h
  replace h := TR.run (r14 w os) h
  replace h := TR.run (r13 w os) h
  replace h := TR.run (r12 w os) h
  replace h := TR.run (r11 w os) h
  replace h := TR.run (r10 w os) h
  replace h := TR.run (r9 w os) h
  replace h := TR.run (r8 w os) h
  replace h := TR.run (r7 w os) h
  replace h := TR.run (r6 w os) h
  replace h := TR.run (r5 w os) h
  replace h := TR.run (r4 w os) h
  replace h := TR.run (r3 w os) h
  replace h := TR.run (r2 w os) h
  replace h := TR.run (r1 w os) h
  have hb := bEnds w os
  have ha := aEnds w os
  have tb : bTh0 = piecesOf (Mine.grp 23 1) ME MC ⟨272, 0, 272, 3⟩ [CF] := by
    unfold bTh0
    rw [EX_eq, bSt_eq]
  have ta : aTh0 = piecesOf (Mine.grp 22 1) ME MC ⟨270, 0, 271, 21⟩ [CF] := by
    unfold aTh0
    rw [EX_eq, aSt_eq]
  rw [tb] at hb
  rw [ta] at ha
  obtain ⟨N, hN, e⟩ := TR.grp ha (TR.grp (s := (bS0 w os).abs) hb h)
  exact ⟨N, Nat.le_trans hN (by decide), e⟩

end Mine
end -- HY2
section -- HZ
open PySem PySem.W PySem.W.X PyProof.Rows PySem.Calls
set_option maxHeartbeats 0
namespace Mine
abbrev PW : Program := PySem.Challenge.pw_aj5038_01
noncomputable def SB (w : World) (os : OsState) : SharedT := { tree := pre.tree_4 w.params, n := 15, life := {}, gens := Array.mk [], drawn := {}, toks := 187, os := os }
noncomputable def B0 (w : World) (os : OsState) : Shared := ⟨boot_heap w.params, Array.mk [], boot_drawn, boot_toks, os⟩
noncomputable def SBt (w : World) (os : OsState) : SharedT := { tree := PySem.W.Fast.tw4836730511564819012 w.params, n := nat_lit 15, life := {}, gens := Array.mk [], drawn := {}, toks := nat_lit 187, os := os }
theorem SBt_eq (w : World) (os : OsState) : SBt w os = SB w os := by
  unfold SBt SB
  rw [← PySem.W.Fast.te4836730511564819012]
theorem pre0t (w : World) (os : OsState) : PySem.W.Fast.tw15667345088766844465 TB PW w (nat_lit 11) (some (.ref (nat_lit 6))) (nat_lit 12) (B0 w os) (topStub PW) = some ((SBt w os).abs, ⟨DEN MC, MC, ⟨0, 0, 0, 0⟩, [CF]⟩) := by
  kernel_rfl
theorem pre0 (w : World) (os : OsState) : topGo treeTable PW w 11 (some (.ref 6)) 12 (B0 w os) (topStub PW) = some ((SB w os).abs, ⟨denote treeTable (.body MB ME), .body MB ME, ⟨0, 0, 0, 0⟩, [CF]⟩) := by
  have h := pre0t w os
  rw [SBt_eq] at h
  unfold DEN TB MC at h
  rw [← PySem.W.Fast.te15667345088766844465, ← PySem.W.Fast.te11892475500146522536, ← PySem.W.Fast.te14364793385576792824] at h
  exact h
theorem MB_app : pre.sts_4 ++ (pre.sts_64 ++ (pre.sts_82 ++ (pre.sts_420 ++ drS MB 22))) = MB := by
  kernel_rfl
theorem T22_S (w : World) (os : OsState) : (aS0 w os) = { tree := pre.tree_434 w.params, n := 305, life := {}, gens := Array.mk [], drawn := {}, toks := 599, os := os } := by
  unfold aS0
  rw [T22_eq]
theorem all_run (w : World) (os : OsState) : ∃ N, N ≤ 40000 ∧ topRun treeTable PW w 11 (some (.ref 6)) N (B0 w os) (topStub PW) = some (r16S w os).abs := by
  obtain ⟨N, hN, e⟩ := rest_run w os
  rw [T22_S] at e
  have c := pre.chain PW MB w os (drS MB 22) N _ (by rw [← ME_eq]; exact e)
  rw [MB_app, ← ME_eq] at c
  have b := piece_block (q := ⟨0, 0, 0, 0⟩) (n := 1) (s := (SB w os).abs) (env := ME) (b := MB) (c := .body MB ME) (pos := ⟨0, 0, 0, 0⟩) (p' := ⟨0, 0, 0, 0⟩) rfl c
  refine ⟨_, ?_, go_top (pre0 w os) b⟩
  show 12 + (1 + (395 + (149 + (1340 + (222 + N))))) ≤ 40000
  omega
theorem run_at (w : World) (os : OsState) : topRun treeTable PW w 11 (some (.ref 6)) 40000 (B0 w os) (topStub PW) = some (r16S w os).abs := by
  obtain ⟨N, hN, e⟩ := all_run w os
  have r := topRun_mono (40000 - N) _ _ _ _ e
  rw [show N + (40000 - N) = 40000 by omega] at r
  exact r
end Mine
end -- HZ
section -- HW0
open PySem PySem.W PySem.W.X PyProof.Rows PySem.Calls
set_option maxHeartbeats 0
namespace Mine
noncomputable def qv : Program := view PW [72]
def loose : List Str := [Str.ofString "_wall", Str.ofString "repeat_string", Str.ofString "PasswordValueError", Str.ofString "_get_name", Str.ofString "ExpectedTypeError", Str.ofString "ExpectedStringError", Str.ofString "NullPasswordError", Str.ofString "PY3", Str.ofString "unicode", Str.ofString "join_byte_values", Str.ofString "join_byte_elems", Str.ofString "byte_elem_value", Str.ofString "int_types", Str.ofString "irange", Str.ofString "imap", Str.ofString "nextgetter", Str.ofString "HASH64_CHARS", Str.ofString "Base64Engine", Str.ofString "LazyBase64Engine", Str.ofString "h64", Str.ofString "h64big", Str.ofString "INT_24_MASK", Str.ofString "INT_64_MASK", Str.ofString "_KS_MASK", Str.ofString "PC1ROT", Str.ofString "PC2ROTA", Str.ofString "PC2ROTB", Str.ofString "PCXROT", Str.ofString "IE3264", Str.ofString "SPE", Str.ofString "CF6464", Str.ofString "_permute", Str.ofString "des_encrypt_int_block", Str.ofString "BNULL_des_crypt", Str.ofString "_crypt_secret_to_key", Str.ofString "_raw_des_crypt", Str.ofString "_bsdi_secret_to_key", Str.ofString "_raw_bsdi_crypt", Str.ofString "des_crypt", Str.ofString "bsdi_crypt", Str.ofString "BNULL_md5_crypt", Str.ofString "_MD5_MAGIC", Str.ofString "_APR_MAGIC", Str.ofString "c_digest_offsets_md5_crypt", Str.ofString "_transpose_map", Str.ofString "_raw_md5_crypt", Str.ofString "md5_crypt", Str.ofString "BNULL_sha2_crypt", Str.ofString "c_digest_offsets_sha2_crypt", Str.ofString "_256_transpose_map", Str.ofString "_512_transpose_map", Str.ofString "_raw_sha2_crypt", Str.ofString "sha256_crypt", Str.ofString "sha512_crypt", Str.ofString "_law_cell", Str.ofString "_law_const", Str.ofString "_law_told", Str.ofString "_law_secret", Str.ofString "_law_signs", Str.ofString "_law_block_salt", Str.ofString "_law_text_salt", Str.ofString "_law_of_secret", Str.ofString "_law_block_due", Str.ofString "_law_text_due"]
noncomputable def H1 (P : Params) : Heap := absHeap (r16T P) 1331 {}
noncomputable def SF (w : World) (os : OsState) : Shared := ⟨H1 w.params, Array.mk [.finished, .finished], {}, 3765, os⟩
noncomputable def Xt (s : Shared) : Bool := xlAt qv [] s && recOk [] s

theorem open_e : opening PW = plainProg PW.main.scope.names := by kernel_rfl
theorem open_f (s : Shared) : fenceModules? PW s = some s := by kernel_rfl
theorem open_at : ∀ w : World, (fencedOpening treeTable PW w 40000).map (fun s => (s.heap, s.gens, s.drawn, s.toks)) = some (boot_heap w.params, Array.mk [], boot_drawn, boot_toks) := boot_open open_e (by decide) open_f
theorem size_at : ∀ w : World, ((boot_heap w.params).isNs mainGlobals && (Array.mk [] : Array GenState).size == 0, (boot_heap w.params).objs.size, (boot_heap w.params).nsMap mainGlobals "__annotations__") = (true, 11, some (.ref 6)) := fun w => by kernel_rfl

theorem look1 (w : World) (os : OsState) : staticsOk (importedModules PW.main.body) (boot_heap w.params) (H1 w.params) = true := by kernel_rfl

theorem look2 (w : World) (os : OsState) : namesBound PW (H1 w.params) = true := by kernel_rfl

theorem look3 (w : World) (os : OsState) : gensDone (SF w os) = true := by kernel_rfl
theorem look4 (w : World) (os : OsState) : laidKept (boot_heap w.params) (H1 w.params) = true := by kernel_rfl

theorem look5t (w : World) (os : OsState) : PySem.W.Fast.tw4187177175401517315 qv loose (importedModules PW.main.body) Xt false (SF w os) = openGood qv loose := by kernel_rfl
theorem look5 (w : World) (os : OsState) : openSeen qv loose (importedModules PW.main.body) Xt false (SF w os) = openGood qv loose := by
  have h := look5t w os
  rw [← PySem.W.Fast.te4187177175401517315] at h
  exact h
end Mine
end -- HW0
section -- HT
open PySem PySem.W PySem.W.X PyProof.Rows PySem.Calls
set_option maxHeartbeats 4000000
namespace Mine
theorem t1 (w : World) (os : OsState) : topRun treeTable PW w 11 (some (.ref 6)) 40000 ⟨boot_heap w.params, Array.mk [], boot_drawn, boot_toks, os⟩ (topStub PW) = some (r16S w os).abs := run_at w os
theorem t2 (w : World) (os : OsState) : (r16S w os).abs = SF w os := by kernel_rfl
theorem t4 (w : World) (os : OsState) : topRun treeTable PW w 11 (some (.ref 6)) 40000 ⟨boot_heap w.params, Array.mk [], boot_drawn, boot_toks, os⟩ (topStub PW) = some ⟨H1 w.params, Array.mk [.finished, .finished], {}, 3765, os⟩ := by
  have h := t1 w os
  rw [t2] at h
  unfold SF at h
  exact h
theorem t5 {α : Type} {Yf : Shared → α} {Ya : World → α} (hY : ∀ w os, Yf (SF w os) = Ya w) : ∀ w : World, (fun os => ((staticsOk (importedModules PW.main.body) (boot_heap w.params) (H1 w.params) && namesBound PW (H1 w.params) && gensDone ⟨H1 w.params, Array.mk [.finished, .finished], {}, 3765, os⟩ && laidKept (boot_heap w.params) (H1 w.params)),
        openSeen qv loose (importedModules PW.main.body) Xt false ⟨H1 w.params, Array.mk [.finished, .finished], {}, 3765, os⟩, Yf ⟨H1 w.params, Array.mk [.finished, .finished], {}, 3765, os⟩)) = fun _ => (true, openGood qv loose, Ya w) := fun w => by
  funext os
  have a1 := look1 w os
  have a2 := look2 w os
  have a3 := look3 w os
  have a4 := look4 w os
  have a5 := look5 w os
  have a6 := hY w os
  unfold SF at a3 a5 a6
  rw [a1, a2, a3, a4, a5, a6]
  rfl
end Mine
namespace Mine
theorem left_of {α : Type} {Yf : Shared → α} {Ya : World → α} (hY : ∀ w os, Yf (SF w os) = Ya w) : LeftO PW qv loose Xt Yf Ya 40000 false :=
  @LeftO.of_pieces PW qv loose Xt α Yf Ya 40000 false boot_heap H1 (Array.mk []) (Array.mk [.finished, .finished]) boot_drawn {} boot_toks 3765 11 (some (.ref 6)) 40000 open_at size_at t4 rfl (t5 hY)
end Mine
end -- HT
section
set_option maxHeartbeats 8000000
namespace Mine
abbrev RR : OpenRow := PySem.Challenge.rw_aj5038_01.row
theorem f_ok : (chainsOk qv && opensWell RR.prog && (frees RR.toRowW && RR.within.isEmpty)) = true := by decide +kernel
theorem f_hb : RR.prog.bare := ⟨rfl, rfl, rfl, rfl, rfl, by decide +kernel⟩
theorem f_hw : RR.toRowW.promised := by w_witness2
end Mine
end
section
set_option maxHeartbeats 8000000
namespace Mine
section
local macro_rules | `(tactic| o_head $_) => `(tactic| exact False.elim (by assumption))
theorem fr (h : False) : (PySem.Challenge.rw_aj5038_01).row.Holds := by
  k_head
end
end Mine
end
section -- left
open PySem PySem.W PySem.W.X PyProof.Rows PySem.Calls
set_option maxHeartbeats 4000000
namespace Mine
def o1103 : Obj := { cls := .none, data := .fields #[] }
noncomputable def KF2 (P : Params) : Frag := (nat_lit 1103, o1103) :: fr.heap_1 P
theorem k1103 (P : Params) : (fr.heap_1 P).lookup (nat_lit 1103) = none := by kernel_rfl
theorem abs_getE (t : BT) (n : Nat) (life : Life) (a : Nat) : (absHeap t n life).get? a = if a < n then alive ((t.get a).getD default) else none := by
  by_cases h : a < n
  · unfold Heap.get?
    rw [absHeap_at, if_pos h, if_pos h]
    generalize (t.get a).getD default = o
    obtain ⟨c, d, dt, sl⟩ := o
    cases dt <;> rfl
  · rw [if_neg h]; exact abs_get_none h
def getB (t : BT) (a : Nat) : Option Obj := match Nat.ble (Nat.succ a) (nat_lit 1331) with
  | true => alive ((t.get a).getD default)
  | false => none
theorem getB_eq (P : Params) : (H1 P).get? = getB (r16T P) := by
  funext a
  unfold H1 getB
  rw [abs_getE]
  cases h : Nat.ble (Nat.succ a) 1331 with
  | true =>
    have q : a < 1331 := Nat.le_of_ble_eq_true h
    rw [if_pos q]
  | false =>
    have q : ¬ a < 1331 := fun q => by rw [Nat.ble_eq_true_of_le q] at h; cases h
    rw [if_neg q]
def KA2 : List Nat := [nat_lit 1103, nat_lit 2, nat_lit 3, nat_lit 15, nat_lit 17, nat_lit 18, nat_lit 20, nat_lit 21, nat_lit 22, nat_lit 24, nat_lit 25, nat_lit 27, nat_lit 28, nat_lit 29, nat_lit 36, nat_lit 37, nat_lit 38, nat_lit 39, nat_lit 42, nat_lit 44, nat_lit 45, nat_lit 47, nat_lit 48, nat_lit 49, nat_lit 51, nat_lit 52, nat_lit 54, nat_lit 55, nat_lit 56, nat_lit 58, nat_lit 59, nat_lit 61, nat_lit 62, nat_lit 63, nat_lit 64, nat_lit 66, nat_lit 67, nat_lit 69, nat_lit 70, nat_lit 71, nat_lit 73, nat_lit 74, nat_lit 76, nat_lit 77, nat_lit 78, nat_lit 79, nat_lit 81, nat_lit 82, nat_lit 84, nat_lit 85, nat_lit 86, nat_lit 93, nat_lit 94, nat_lit 96, nat_lit 97, nat_lit 99, nat_lit 100, nat_lit 101, nat_lit 103, nat_lit 104, nat_lit 106, nat_lit 107, nat_lit 108, nat_lit 109, nat_lit 111, nat_lit 112, nat_lit 114, nat_lit 115, nat_lit 116, nat_lit 118, nat_lit 119, nat_lit 121, nat_lit 122, nat_lit 123, nat_lit 125, nat_lit 126, nat_lit 128, nat_lit 129, nat_lit 130, nat_lit 132, nat_lit 133, nat_lit 135, nat_lit 136, nat_lit 137, nat_lit 139, nat_lit 140, nat_lit 142, nat_lit 143, nat_lit 144, nat_lit 146, nat_lit 147, nat_lit 149, nat_lit 150, nat_lit 151, nat_lit 153, nat_lit 154, nat_lit 156, nat_lit 157, nat_lit 158, nat_lit 160, nat_lit 161, nat_lit 163, nat_lit 164, nat_lit 165, nat_lit 166, nat_lit 168, nat_lit 169, nat_lit 171, nat_lit 172, nat_lit 173, nat_lit 174, nat_lit 176, nat_lit 177, nat_lit 179, nat_lit 180, nat_lit 181, nat_lit 183, nat_lit 184, nat_lit 186, nat_lit 187, nat_lit 188, nat_lit 190, nat_lit 191, nat_lit 193, nat_lit 194, nat_lit 195, nat_lit 197, nat_lit 198, nat_lit 200, nat_lit 201, nat_lit 202, nat_lit 204, nat_lit 205, nat_lit 207, nat_lit 208, nat_lit 209, nat_lit 211, nat_lit 212, nat_lit 214, nat_lit 215, nat_lit 216, nat_lit 218, nat_lit 219, nat_lit 221, nat_lit 222, nat_lit 223, nat_lit 225, nat_lit 226, nat_lit 228, nat_lit 229, nat_lit 230, nat_lit 232, nat_lit 233, nat_lit 235, nat_lit 236, nat_lit 237, nat_lit 239, nat_lit 240, nat_lit 242, nat_lit 243, nat_lit 244, nat_lit 246, nat_lit 247, nat_lit 249, nat_lit 250, nat_lit 251, nat_lit 253, nat_lit 254, nat_lit 256, nat_lit 257, nat_lit 258, nat_lit 260, nat_lit 261, nat_lit 263, nat_lit 264, nat_lit 265, nat_lit 267, nat_lit 268, nat_lit 270, nat_lit 271, nat_lit 272, nat_lit 274, nat_lit 275, nat_lit 277, nat_lit 278, nat_lit 279, nat_lit 281, nat_lit 282, nat_lit 284, nat_lit 285, nat_lit 286, nat_lit 287, nat_lit 288, nat_lit 289, nat_lit 290, nat_lit 293, nat_lit 300, nat_lit 301, nat_lit 302, nat_lit 305, nat_lit 306, nat_lit 312, nat_lit 315, nat_lit 317, nat_lit 320, nat_lit 647, nat_lit 648, nat_lit 649, nat_lit 650, nat_lit 651, nat_lit 657, nat_lit 662, nat_lit 989, nat_lit 990, nat_lit 991, nat_lit 992, nat_lit 993, nat_lit 994, nat_lit 995, nat_lit 996, nat_lit 997, nat_lit 998, nat_lit 999, nat_lit 1000, nat_lit 1001, nat_lit 1002, nat_lit 1003, nat_lit 1004, nat_lit 1005, nat_lit 1006, nat_lit 1007, nat_lit 1008, nat_lit 1009, nat_lit 1010, nat_lit 1011, nat_lit 1012, nat_lit 1013, nat_lit 1014, nat_lit 1015, nat_lit 1016, nat_lit 1017, nat_lit 1018, nat_lit 1019, nat_lit 1020, nat_lit 1021, nat_lit 1022, nat_lit 1023, nat_lit 1024, nat_lit 1025, nat_lit 1026, nat_lit 1027, nat_lit 1028, nat_lit 1029, nat_lit 1030, nat_lit 1031, nat_lit 1032, nat_lit 1033, nat_lit 1034, nat_lit 1035, nat_lit 1036, nat_lit 1037, nat_lit 1038, nat_lit 1039, nat_lit 1040, nat_lit 1041, nat_lit 1042, nat_lit 1043, nat_lit 1044, nat_lit 1045, nat_lit 1046, nat_lit 1047, nat_lit 1048, nat_lit 1049, nat_lit 1050, nat_lit 1051, nat_lit 1052, nat_lit 1053, nat_lit 1054, nat_lit 1055, nat_lit 1056, nat_lit 1057, nat_lit 1058, nat_lit 1059, nat_lit 1060, nat_lit 1061, nat_lit 1062, nat_lit 1063, nat_lit 1064, nat_lit 1065, nat_lit 1066, nat_lit 1067, nat_lit 1068, nat_lit 1069, nat_lit 1070, nat_lit 1071, nat_lit 1072, nat_lit 1073, nat_lit 1074, nat_lit 1075, nat_lit 1076, nat_lit 1077, nat_lit 1078, nat_lit 1079, nat_lit 1080, nat_lit 1081, nat_lit 1082, nat_lit 1083, nat_lit 1084, nat_lit 1085, nat_lit 1086, nat_lit 1087, nat_lit 1089, nat_lit 1090, nat_lit 1092, nat_lit 1093, nat_lit 1094, nat_lit 1095, nat_lit 1097, nat_lit 1098, nat_lit 1100, nat_lit 1101, nat_lit 1102, nat_lit 1104, nat_lit 1105, nat_lit 1107, nat_lit 1108, nat_lit 1109, nat_lit 1111, nat_lit 1112, nat_lit 1114, nat_lit 1115, nat_lit 1116, nat_lit 1118, nat_lit 1119, nat_lit 1121, nat_lit 1122, nat_lit 1123, nat_lit 1125, nat_lit 1126, nat_lit 1128, nat_lit 1129, nat_lit 1130, nat_lit 1137, nat_lit 1138, nat_lit 1139, nat_lit 1140, nat_lit 1141, nat_lit 1144, nat_lit 1151, nat_lit 1152, nat_lit 1153, nat_lit 1154, nat_lit 1155, nat_lit 1158, nat_lit 1159, nat_lit 1160, nat_lit 1161, nat_lit 1162, nat_lit 1163, nat_lit 1164, nat_lit 1165, nat_lit 1166, nat_lit 1167, nat_lit 1168, nat_lit 1169, nat_lit 1170, nat_lit 1171, nat_lit 1172, nat_lit 1173, nat_lit 1174, nat_lit 1175, nat_lit 1176, nat_lit 1177, nat_lit 1178, nat_lit 1179, nat_lit 1180, nat_lit 1181, nat_lit 1182, nat_lit 1185, nat_lit 1186, nat_lit 1187, nat_lit 1194, nat_lit 1195, nat_lit 1196, nat_lit 1197, nat_lit 1198, nat_lit 1201, nat_lit 1202, nat_lit 1203, nat_lit 1204, nat_lit 1205, nat_lit 1206, nat_lit 1207, nat_lit 1208, nat_lit 1209, nat_lit 1210, nat_lit 1211, nat_lit 1212, nat_lit 1213, nat_lit 1214, nat_lit 1215, nat_lit 1216, nat_lit 1217, nat_lit 1218, nat_lit 1219, nat_lit 1220, nat_lit 1221, nat_lit 1222, nat_lit 1223, nat_lit 1224, nat_lit 1225, nat_lit 1226, nat_lit 1229, nat_lit 1230, nat_lit 1231, nat_lit 1238, nat_lit 1239, nat_lit 1240, nat_lit 1241, nat_lit 1242, nat_lit 1245, nat_lit 1252, nat_lit 1253, nat_lit 1254, nat_lit 1255, nat_lit 1256, nat_lit 1259, nat_lit 1261, nat_lit 1262, nat_lit 1264, nat_lit 1265, nat_lit 1266, nat_lit 1267, nat_lit 1269, nat_lit 1270, nat_lit 1272, nat_lit 1273, nat_lit 1274, nat_lit 1276, nat_lit 1277, nat_lit 1279, nat_lit 1280, nat_lit 1281, nat_lit 1284, nat_lit 1285, nat_lit 1286, nat_lit 1289, nat_lit 1290, nat_lit 1291, nat_lit 1293, nat_lit 1294, nat_lit 1296, nat_lit 1297, nat_lit 1298, nat_lit 1300, nat_lit 1301, nat_lit 1303, nat_lit 1304, nat_lit 1305, nat_lit 1307, nat_lit 1308, nat_lit 1310, nat_lit 1311, nat_lit 1312, nat_lit 1314, nat_lit 1315, nat_lit 1317, nat_lit 1318, nat_lit 1319, nat_lit 1321, nat_lit 1322, nat_lit 1324, nat_lit 1325, nat_lit 1326, nat_lit 1329, nat_lit 1330]
theorem KA2_eq (P : Params) : KA2 = (KF2 P).map (·.1) := by kernel_rfl
theorem KF2_b (P : Params) : KA2.map (getB (r16T P)) = (KF2 P).map fun p => some p.2 := by kernel_rfl
theorem KF2_at (w : World) (os : OsState) : KA2.map (SF w os).heap.get? = (KF2 w.params).map fun p => some p.2 := by
  show KA2.map (H1 w.params).get? = _
  rw [getB_eq]
  exact KF2_b w.params
theorem left2 : LeftO PW qv loose Xt (fun s => (Hook.obs (kHook KF2 KA2 KA2_eq) s, s.gens)) (fun w => (Hook.val (kHook KF2 KA2 KA2_eq) w, #[.finished, .finished])) 40000 false :=
  left_of fun w os => Prod.ext (KF2_at w os) rfl
end Mine
end -- left
local macro_rules | `(tactic| walk_at "And") => `(tactic| wtm_at "z And")
local macro_rules | `(tactic| walk_at "ROwn") => `(tactic| wtm_at "z ROwn")
local macro_rules | `(tactic| walk_at "WhlIf") => `(tactic| wtm_at "z WhlIf")
local macro_rules | `(tactic| walk_at "binaryOp LShift int int") => `(tactic| wtm_at "z binaryOp LShift int int")
local macro_rules | `(tactic| walk_at "binaryOp Mod str str") => `(tactic| wtm_at "z binaryOp Mod str str")
local macro_rules | `(tactic| walk_at "call builtin:isinstance") => `(tactic| wtm_at "z call builtin:isinstance")
local macro_rules | `(tactic| walk_at "call builtin:len") => `(tactic| wtm_at "z call builtin:len")
local macro_rules | `(tactic| walk_at "call builtin:str.encode") => `(tactic| wtm_at "z call builtin:str.encode")
local macro_rules | `(tactic| walk_at "call builtin:str.join") => `(tactic| wtm_at "z call builtin:str.join")
local macro_rules | `(tactic| walk_at "call builtin:sum") => `(tactic| wtm_at "z call builtin:sum")
local macro_rules | `(tactic| walk_at "call ref") => `(tactic| wtm_at "z call ref")
local macro_rules | `(tactic| walk_at "call type:enumerate") => `(tactic| wtm_at "z call type:enumerate")
local macro_rules | `(tactic| walk_at "call type:range") => `(tactic| wtm_at "z call type:range")
local macro_rules | `(tactic| walk_at "callWith ref") => `(tactic| wtm_at "z callWith ref")
local macro_rules | `(tactic| walk_at "compareOp In") => `(tactic| wtm_at "z compareOp In")
local macro_rules | `(tactic| walk_at "convS") => `(tactic| wtm_at "z convS")
local macro_rules | `(tactic| walk_at "eval IfExp") => `(tactic| wtm_at "z eval IfExp")
local macro_rules | `(tactic| walk_at "eval ListComp") => `(tactic| wtm_at "z eval ListComp")
local macro_rules | `(tactic| walk_at "eval Name") => `(tactic| wtm_at "z eval Name")
local macro_rules | `(tactic| walk_at "exec Assert") => `(tactic| wtm_at "z exec Assert")
local macro_rules | `(tactic| walk_at "exec Assign cons ListComp") => `(tactic| wtm_at "z exec Assign cons ListComp")
local macro_rules | `(tactic| walk_at "exec For") => `(tactic| wtm_at "z exec For")
local macro_rules | `(tactic| walk_at "exec Raise some none") => `(tactic| wtm_at "z exec Raise some none")
local macro_rules | `(tactic| walk_at "exec While") => `(tactic| wtm_at "z exec While")
local macro_rules | `(tactic| walk_at "exec While Compare") => `(tactic| wtm_at "z exec While Compare")
local macro_rules | `(tactic| walk_at "getMethod str") => `(tactic| wtm_at "z getMethod str")
local macro_rules | `(tactic| walk_at "handleBy ref") => `(tactic| wtm_at "z handleBy ref")
local macro_rules | `(tactic| walk_at "ite") => `(tactic| wtm_at "z ite")
local macro_rules | `(tactic| walk_at "leaving ref") => `(tactic| wtm_at "z leaving ref")
local macro_rules | `(tactic| walk_at "noteFrame ref") => `(tactic| wtm_at "z noteFrame ref")
local macro_rules | `(tactic| walk_at "subscriptTail") => `(tactic| wtm_at "z subscriptTail")
local macro_rules | `(tactic| walk_at "truthy ref") => `(tactic| wtm_at "z truthy ref")
local macro_rules | `(tactic| k_in) => `(tactic| first | with_reducible assumption | exact Frag.In.keeps (by k_asm) (Fr.keep (by k_asm)) | fail "no")
local macro_rules | `(tactic| kcj_all) => `(tactic| first | exact (fun _ hp => hp) | exact (fun _ hp => List.mem_cons_of_mem _ hp) | exact (fun _ hp => List.mem_cons_of_mem _ (List.mem_cons_of_mem _ hp)) | fail "no")
section -- WB
open PySem PySem.W PySem.W.X PyProof.Rows PySem.Calls
set_option maxHeartbeats 8000000
namespace Mine
/-- what a call must give back: a value that 'P' holds of; the frame and the ledger as they were -/
abbrev Ret (h₀ : Heap) (L : Addr) (m : Str → Option Value) (news : List (Addr × Obj)) (s : Shared) (Q : Value → Shared → Prop) (P : Value → Prop) : Prop :=
  ∀ (v : Value) (h' : Heap) (tk' : Nat), P v → Fr h₀ L h' m → News h₀ L h' news → Q v { s with heap := h', toks := tk' }
abbrev Ct (w : World) (f : Addr) (vs : List Value) (P : Value → Prop) : Prop :=
  ∀ (mean : ExcName → Option Value) (mg mb : Str → Option Value) (dp un : Nat) (gd : Option (List Code)) (cn : Str) (cs : Scope) (a : Addr) (ccd : Value) (cl : List (Str × Addr)) (outer : List Env) (A₀ : Around) (base h₀ : Heap) (L : Addr) (m : Str → Option Value) (news : List (Addr × Obj)) (s : Shared) (Q E : Value → Shared → Prop),
    Below A₀ base outer h₀ → Fr h₀ L s.heap m → (fr.heap_1 w.params).In h₀ → News h₀ L s.heap news → Top qv (looseW qv loose) mean mg mb h₀ → cs.kind = .function →
    dp + 6 < recursionLimit → un + 48 < cLine → Ret h₀ L m news s Q P →
      wpAny (model PW w) (ktrTop dp un gd cn cs L a ccd cl outer) (call (.ref f) vs) Q E s
theorem ret_of {h₀ : Heap} {L : Addr} {m : Str → Option Value} {news news' : List (Addr × Obj)} {s : Shared} {Q : Value → Shared → Prop} {P : Value → Prop} {v : Value} {h' : Heap} {tk' : Nat}
    (h : Ret h₀ L m news s Q P) (F : Fr h₀ L h' m) (N : News h₀ L h' news') (hn : ∀ p ∈ news, p ∈ news') (p : P v) : Q v { s with heap := h', toks := tk' } := h v h' tk' p F fun q hq => N q (hn q hq)
theorem str_ex {a b : Str} {t : Tok} (h : a = b) : ∃ t', Value.str a t = .str b t' := ⟨t, by rw [h]⟩
end Mine
end -- WB
section -- Ty
open PySem PySem.W PySem.W.X PyProof.Rows PySem.Calls
namespace Mine
theorem slot_type_str : Slot "type" "__str__" "object.__str__" :=
  .of (owner := "object") (n := "__str__") (by rw [typeLookup_type, builtinLookup_eq_fast]; kernel_rfl) (by decide +kernel) (by decide +kernel) (by decide +kernel)
    (by first | exact .inl (by decide +kernel) | exact .inr (by decide +kernel)) (by rw [isSubtype_type]; kernel_rfl)
theorem slot_type_repr : Slot "type" "__repr__" "type.__repr__" :=
  .of (owner := "type") (n := "__repr__") (by rw [typeLookup_type, builtinLookup_eq_fast]; kernel_rfl) (by decide +kernel) (by decide +kernel) (by decide +kernel)
    (by first | exact .inl (by decide +kernel) | exact .inr (by decide +kernel)) (by rw [isSubtype_type]; kernel_rfl)
theorem entry_type_repr : entryFor table "type.__repr__" = some Builtin.«type.__repr__» := entryFor_of_tree (by kernel_rfl)
theorem args_type_repr (a : Value) : argsOk "type.__repr__" ⟨[a], []⟩ := by
  unfold argsOk; rw [signature?_of (id := "type.__repr__") (n := ['_', '_', 'r', 'p', 'e', 'r', '_', '_']) (o := ['e', 'p', 'y', 't']) (by kernel_rfl) (by first | rfl | kernel_rfl | decide +kernel)]; kernel_rfl
theorem meta_str (s' : Shared) : s'.TypeIs (.type "str") "type" := by show typeOf _ = _; kernel_rfl
theorem gives_type_repr : Gives (Builtin.«type.__repr__» ⟨[.type "str"], []⟩) (.str "<class 'str'>") := .of_eq (by kernel_rfl)
theorem convS_tstr {prog : Program} {w : World} {A : Around} {E : Value → Shared → Prop} {s : Shared} {Q : Value → Shared → Prop} (h : Q (.str "<class 'str'>" s.toks) { s with toks := s.toks + 1 }) : wpAny (model prog w) A (convS (.type "str")) Q E s :=
  wpAny_pyStrObj_gives (by intro _ _ h; cases h) (meta_str s) slot_type_str slot_type_repr entry_type_repr (args_type_repr _) gives_type_repr h (hx := by decide +kernel)
theorem ite_yes {p : Prop} [Decidable p] {P Q : Prop} (h : p) (k : P) : if decide p = true then P else Q := by rw [if_pos (decide_eq_true h)]; exact k
theorem ite_no {p : Prop} [Decidable p] {P Q : Prop} (h : ¬ p) (k : Q) : if decide p = true then P else Q := by rw [if_neg (by simpa using h)]; exact k
end Mine
end -- Ty
section -- Sx
open PySem PySem.W PySem.W.X PyProof.Rows PySem.Calls PySem.Spec
namespace Mine
section
variable {prog : Program} {w : World} {A₀ A : Around} {s : Shared} {base h₀ g₀ : Heap} {outer : List Env} {L a : Addr} {m : Str → Option Value} {news : List (Addr × Obj)} {K : Frag} {p : Program} {loose : List Str} {mean : ExcName → Option Value} {mg mb : Str → Option Value}
    {R : Result → Shared → Prop} {name qual : Str} {params : Arguments} {body : List Stmt} {scope : Scope} {dV kV doc pm cdv ct oc : Value} {an od : Option Addr} {osl : Array (Option Value)} {f : Addr} {args : Args} {binds : List (Str × Value)} {env : Env}
/-- the library's code_defS0 for a caller whose frame holds cells -/
theorem code_defS0X (B : Below A₀ base [] h₀) (F : Fr h₀ L s.heap m) (X₀ : K.In h₀) (N : News h₀ L s.heap news) (T : Top p loose mean mg mb h₀) (hA : A.frames = some [env]) (hf : env.frame = some L) (hke : env.scope.kind = .function)
    (ho : K.lookup f = some ⟨oc, od, .func (fnOf name qual params body scope dV kV doc pm an cdv ct), osl⟩) (hcd : codeIn K cdv qual = true) (hroom : A.depth < recursionLimit)
    (hbind : BindsTo s (fnOf name qual params body scope dV kV doc pm an cdv ct) args binds) (hloc : ∀ y ∈ binds, scope.names.lookup y.1 = some .local)
    (h : ∀ g L' h₁, Fr h₀ L g m → Fr g L' h₁ (fun y => binds.reverse.lookup y) → News g L' h₁ news → Below A base [env] g → K.In g → Top p loose mean mg mb g → KtsDicts ([env].filterMap (·.frame)) g →
      wpAny (model prog w) (A.deeper (envOf qual scope L' f cdv)) (execs body (envOf qual scope L' f cdv))
        (fun fl s' => LeaveS0 ([env].filterMap (·.frame)) h₀ L m g R (match fl with | .ret v => v | _ => .none) s')
        (fun e s' => wpAny (model prog w) (A.deeper (envOf qual scope L' f cdv)) («leaving» (envOf qual scope L' f cdv) e) (fun _ s'' => R (.error e) s'') (fun e' s'' => R (.error e') s'') s')
        { s with heap := h₁, toks := s.toks + binds.length })
    (hco : scope.isCoroutine = false) (hgen : scope.isGenerator = false) (hk : scope.kind = .function)
    (hcell : ∀ x ∈ scope.names, x.2 ≠ .cell) : codeAny (model prog w) A (.call (.ref f) args) R s := by
  have X := X₀.keeps F.keep
  refine codeAny_call_def (fd := fnOf name qual params body scope dV kV doc pm an cdv ct) (body := body) (binds := binds) hroom (X _ _ ho) rfl (T.nolimit.keeps F.keep) (codeRec_of X hcd) rfl hbind hcell hloc (fun h₁ hns hk₁ => ?_) hco hgen hk
  obtain ⟨FG, BG, st, _⟩ := groundX (R := R) B F N hA hf hke
  have hfs : [env].filterMap (·.frame) = [L] := by simp only [List.filterMap_cons, hf, List.filterMap_nil]
  obtain ⟨oL, es, ep, hLg, hLd, hLk, hLf⟩ := FG.ns
  refine wpAny_mono (h _ s.heap.objs.size h₁ FG ⟨hns, fun b o e => hk₁ b o (of_hideAll _ e), Nat.le_of_eq (hideAll_size _ _)⟩
    (fun p hp => ⟨hk₁ _ _ (N p hp).1, Nat.ne_of_lt (Heap.lt_size (N p hp).1), hideAll_none _ (List.mem_map_of_mem hp)⟩) BG (X₀.keeps st) (T.keeps st) (fun b hb => by
      rw [hfs] at hb
      rw [List.mem_singleton.mp hb]
      exact ⟨oL, es, ep, hLg, hLd⟩)) (fun fl s' hl => ?_) fun _ _ y => y
  obtain ⟨g', L', m', news', T', F', N', k⟩ := hl
  have nL₀ : h₀.get? L = none := kts_self F
  obtain ⟨sl, hs⟩ := T'.up hLg
  refine k ⟨⟨_, es, ep, F'.keep _ _ hs, hLd, hLk, hLf⟩, fun b o e => F'.keep b o (T'.other b o (st b o e) (fun q => by
    rw [hfs] at q
    rw [List.mem_singleton.mp q, nL₀] at e
    cases e)), F.above⟩ fun p hp => ⟨(N' p hp).1, fun q => ?_, ?_⟩
  · have := (N' p hp).2.2; rw [q, hs] at this; cases this
  · cases q : h₀.get? p.1 with
    | none => rfl
    | some o =>
      obtain ⟨sl', hs'⟩ := T'.up (st _ _ q)
      have := (N' p hp).2.2
      rw [hs'] at this
      cases this
end
end Mine
end -- Sx
section -- Bc
open PySem PySem.W PySem.W.X PyProof.Rows PySem.Calls PySem.Spec
namespace Mine
section
variable {prog : Program} {w : World} {A : Around} {E : Value → Shared → Prop} {s : Shared} {h₀ : Heap} {L : Addr} {m : Str → Option Value} {env : Env}
/-- the source of a comprehension is a bytes -/
def SrcB (prog : Program) (w : World) (A : Around) (h₀ : Heap) (L : Addr) (m : Str → Option Value) (env : Env) (elt : Expr) (x : Str) (scope : Scope) (cl : List (Str × Addr)) (Q : Value → Shared → Prop) (xv : Value) (s₁ : Shared) : Prop :=
  ∃ b tb news, xv = .bytes b tb ∧ A.handled = none ∧ Fr h₀ L s₁.heap m ∧ News h₀ L s₁.heap news ∧ b.size ≤ sizeLine ∧
    ∀ g, LCg.CompRest prog w A h₀ L m env elt x scope cl { s₁ with heap := g } (fun _ => True) (fun i v => ∃ c u, b[i]? = some c ∧ v = .int (c.toNat : Int) u) (LCg.FinE h₀ L m { s₁ with heap := g } Q) b.size 0 [] news
theorem SrcB.intro {elt : Expr} {x : Str} {scope : Scope} {cl : List (Str × Addr)} {Q : Value → Shared → Prop} {b : Array UInt8} {tb : Tok} {news : List (Addr × Obj)} {s₁ : Shared}
    (hh : A.handled = none) (F : Fr h₀ L s₁.heap m) (N : News h₀ L s₁.heap news) (hb : b.size ≤ sizeLine)
    (h : ∀ g, LCg.CompRest prog w A h₀ L m env elt x scope cl { s₁ with heap := g } (fun _ => True) (fun i v => ∃ c u, b[i]? = some c ∧ v = .int (c.toNat : Int) u) (LCg.FinE h₀ L m { s₁ with heap := g } Q) b.size 0 [] news) :
    SrcB prog w A h₀ L m env elt x scope cl Q (.bytes b tb) s₁ := ⟨b, tb, news, rfl, hh, F, N, hb, h⟩
theorem bytes_st {I : Addr} {b : Array UInt8} {t : Tok} : ∀ i (h h' : Heap) (o : Obj) (nw : List (Addr × Obj)), KBw.IsBytesIter h I b t i → h.get? I = some o → h'.get? I = some o → (∀ b o, h₀.get? b = some o → h'.get? b = some o) → News h₀ L h' nw → True → KBw.IsBytesIter h' I b t i :=
  fun i h h' o nw st e e' _ _ _ => by
    obtain ⟨o', q, r⟩ := st; rw [e] at q; cases q; exact ⟨o, e', r⟩
theorem ListComp_B {elt iter : Expr} {x : Str} {px : Pos} {scope : Scope} {cl : List (Str × Addr)} {pos : Pos} {Q : Value → Shared → Prop} (F₀ : Fr h₀ L s.heap m)
    (hclos : closureFor scope env = pure cl) (hcell : ∀ y ∈ scope.names, y.2 ≠ .cell) (hkind : scope.kind = .function)
    (hnames : ∀ y ∈ scope.names, y.2 = .local → scope.names.lookup y.1 = some .local) (hx : scope.names.lookup x = some .local)
    (h : wpAny (model prog w) A (eval iter env) (SrcB prog w A h₀ L m env elt x scope cl Q) E s)
    (hs : ∀ x, foldedSetIterable iter env x = pure x := by intro _; rfl) :
    wpAny (model prog w) A (eval (.ListComp elt [⟨.Name x px, iter, [], 0⟩] scope pos) env) Q E s := by
  rw [eval_ListComp]
  refine wpAny_comprehension_free (use := none) rfl hs hclos hkind hnames (wpAny_mono h (fun xv s₁ h₁ => ?_) fun _ _ e => e)
  obtain ⟨b, tb, news, rfl, hh, F, N, hsz, R⟩ := h₁
  refine KBw.pyIter_bytes ?_
  refine LCg.block_U (KBw.walks hh s₁.heap.objs.size b tb) hsz (fun i h st => by obtain ⟨o, e, _⟩ := st; exact ⟨o, e⟩) bytes_st hcell hkind hx ⟨_, Heap.get?_push_size _ rfl, rfl, rfl⟩ (fun b hb => ?_)
    (F.keeps fun _ _ e => Heap.get?_push_of_some _ e) (N.grown fun _ _ e => Heap.get?_push_of_some _ e) (Nat.ne_of_lt F.ns.lt) (next_is_new F) (fun p hp => Nat.ne_of_lt (Heap.lt_size (N p hp).1)) trivial (R _) ?_
  · rw [List.mem_singleton.mp hb]
    show s₁.heap.objs.size < (s₁.heap.push _).objs.size
    rw [Heap.size_push]; exact Nat.lt_succ_self _
  · intro D C h tk m' ys news' F' N' o1 hn hC₀ hD₀ hCL hDL hCD offC fin
    refine ⟨m', hn, fun h'' hs'' => fin D h'' tk (F'.change hs'' hCL hC₀) (fun p hp => ?_) o1⟩
    refine ⟨hs''.extBut _ _ ?_ (N' p hp).1, (N' p hp).2⟩
    rcases List.mem_cons.mp hp with rfl | hp
    · exact Ne.symm hCD
    · exact offC p hp
/-- the source of a comprehension, under a name that the walk does not know -/
def SrcM := @LCg.CompSrc
theorem ListComp_M {elt iter : Expr} {x : Str} {px : Pos} {scope : Scope} {cl : List (Str × Addr)} {pos : Pos} {Q : Value → Shared → Prop} (F₀ : Fr h₀ L s.heap m)
    (hclos : closureFor scope env = pure cl) (hcell : ∀ y ∈ scope.names, y.2 ≠ .cell) (hkind : scope.kind = .function)
    (hnames : ∀ y ∈ scope.names, y.2 = .local → scope.names.lookup y.1 = some .local) (hx : scope.names.lookup x = some .local)
    (h : wpAny (model prog w) A (eval iter env) (SrcM prog w A h₀ L m env elt x scope cl (fun s₂ => LCg.FinE h₀ L m s₂ Q)) E s)
    (hs : ∀ x, foldedSetIterable iter env x = pure x := by intro _; rfl) :
    wpAny (model prog w) A (eval (.ListComp elt [⟨.Name x px, iter, [], 0⟩] scope pos) env) Q E s := LCg.ListComp_U F₀ hclos hcell hkind hnames hx h hs
theorem kct_bytes {elt : Expr} {x : Str} {scope : Scope} {cl : List (Str × Addr)} {S : List (Addr × Obj) → Prop} {Fin : List Value → List (Addr × Obj) → Prop} {news : List (Addr × Obj)} {b : Array UInt8} (g : Int → PySem.Str)
    (turn : ∀ k t I oI C oC D m₂ ys h tk (E' : Value → Shared → Prop), k ∈ KBw.bInts b → LCg.NsObj oC m₂ → m₂ x = some (.int k t) → Fr h₀ L h m → News h₀ L h ((I, oI) :: (C, oC) :: (D, LCg.lst ys) :: news) → LCg.Off3 I C D news → ((@Ne Nat I C) ∧ (@Ne Nat I D) ∧ (@Ne Nat C D)) → KPfMark →
      wpAny (model prog w) A (eval elt (compEnvC scope cl C env)) (LCg.CompEnd h₀ L m { s with heap := h, toks := tk } I oI C oC D (LCg.lst ys) S (fun y news' => KCtEl news (g k) y news')) E' { s with heap := h, toks := tk })
    (fin : ∀ ys, CarriedAll ys ((KBw.bInts b).map fun k => PyData.str (g k)) → (KBw.bInts b).length = b.size → Fin ys news) : LCg.CompRest prog w A h₀ L m env elt x scope cl s S (fun i v => ∃ c u, b[i]? = some c ∧ v = .int (c.toNat : Int) u) Fin b.size 0 [] news :=
  kct_rest (ks := KBw.bInts b) g (KBw.ints_length b) (fun i v hi hv => by
    obtain ⟨c, u, hc, e⟩ := hv
    exact ⟨_, u, KBw.ints_get hc, e⟩) turn fin
end
end Mine
end -- Bc
section -- Pl
open PySem PySem.W PySem.W.X PyProof.Rows PySem.Calls
namespace Mine
def Sgn (c : Nat) : Prop := c ∈ [46, 47, 48, 57, 65, 90, 97, 122]
instance (c : Nat) : Decidable (Sgn c) := inferInstanceAs (Decidable (c ∈ _))
theorem sgn_item (i : Int) (h0 : 0 ≤ i) (h1 : i < 8) : ∀ c ∈ (Txt.item (Str.ofString "./09AZaz") i).cps.toList, Sgn c := by
  have : i = 0 ∨ i = 1 ∨ i = 2 ∨ i = 3 ∨ i = 4 ∨ i = 5 ∨ i = 6 ∨ i = 7 := by omega
  rcases this with h | h | h | h | h | h | h | h <;> subst h <;> decide +kernel
theorem mem_glued (l : List Str) (c : Nat) : c ∈ (Txt.join (Str.ofString "") l).cps.toList ↔ ∃ t ∈ l, c ∈ t.cps.toList := by
  show c ∈ (Builtin.Str.glued (Str.ofString "") l).cps.toList ↔ _
  rw [StrLaws.glued_eq_join, mem_join]
  constructor
  · rintro (h | ⟨_, h⟩)
    · exact h
    · exact absurd h (by rw [show (Str.ofString "").cps.toList = [] from by decide +kernel]; simp)
  · exact .inl
theorem signs_mem (far : Int) (l : List Int) : ∀ c ∈ (Txt.join (Str.ofString "") (l.map fun a => Txt.item (Str.ofString "./09AZaz") ((far + a).fmod 8))).cps.toList, Sgn c := by
  intro c hc
  obtain ⟨t, ht, hc⟩ := (mem_glued _ _).1 hc
  obtain ⟨a, _, rfl⟩ := List.mem_map.1 ht
  exact sgn_item _ (fmod_lo _ (by decide)) (fmod_hi _ (by decide)) c hc
theorem text_mem (l : List Int) : ∀ c ∈ (Txt.join (Str.ofString "") (l.map fun a => (⟨#[(1 + a.fmod 127).toNat]⟩ : Str))).cps.toList, 1 ≤ c ∧ c < 128 := by
  intro c hc
  obtain ⟨t, ht, hc⟩ := (mem_glued _ _).1 hc
  obtain ⟨a, _, rfl⟩ := List.mem_map.1 ht
  have h0 : 0 ≤ a.fmod 127 := fmod_lo _ (by decide)
  have h1 : a.fmod 127 < 127 := fmod_hi _ (by decide)
  simp at hc
  omega
/-- what '_law_secret' hands back; 'extra': the objects that it makes for kind 2 -/
inductive SecP : Int → Value → List (Addr × Obj) → Prop
  | octets (b : Array UInt8) (t : Tok) (h : ∀ c ∈ b.toList, c ≠ 0) (hl : b.size ≤ 8) : SecP 0 (.bytes b t) []
  | nought (b : Array UInt8) (t : Tok) (h : (0 : UInt8) ∈ b.toList) : SecP 1 (.bytes b t) []
  | none : SecP 2 .none []
  | int (k : Int) (t : Tok) : SecP 2 (.int k t) []
  | list (a : Addr) (vs : Array Value) (n : Nat) : SecP 2 (.ref a) [(a, W.listOf vs n)]
  | tuple (a : Addr) (vs : Array Value) (n : Nat) : SecP 2 (.ref a) [(a, { cls := .type "tuple", data := .seq vs n })]
  | text (x : Str) (t : Tok) (h : ∀ c ∈ x.cps.toList, 1 ≤ c ∧ c < 128) (hl : x.length ≤ 8) : SecP 3 (.str x t) []
theorem byteArr_mem {l : List Int} {c : UInt8} (h : c ∈ (byteArr l).toList) : ∃ k ∈ l, c = UInt8.ofNat k.toNat := by
  have h' : c ∈ l.map fun n => n.toNat.toUInt8 := h
  obtain ⟨k, hk, e⟩ := List.mem_map.1 h'
  exact ⟨k, hk, e.symm⟩
def oct (far : Int) : List Int := (rangeKs 0 (far.fmod 9 - 0).toNat).map fun k' => 1 + (far + 37 * k').fmod 255
theorem oct_in {far k : Int} (h : k ∈ oct far) : 1 ≤ k ∧ k ≤ 255 := by
  obtain ⟨a, _, rfl⟩ := List.mem_map.1 h
  have h0 : 0 ≤ (far + 37 * a).fmod 255 := fmod_lo _ (by decide)
  have h1 : (far + 37 * a).fmod 255 < 255 := fmod_hi _ (by decide)
  omega
theorem oct_len (far : Int) : (oct far).length ≤ 8 := by
  have h0 : 0 ≤ far.fmod 9 := fmod_lo _ (by decide)
  have h1 : far.fmod 9 < 9 := fmod_hi _ (by decide)
  simp only [oct, List.length_map, rangeKs_length]
  omega
theorem oct_ne {far : Int} {c : UInt8} (h : c ∈ (byteArr (oct far)).toList) : c ≠ 0 := by
  obtain ⟨k, hk, rfl⟩ := byteArr_mem h
  have := oct_in hk
  intro e
  have e2 := congrArg UInt8.toNat e
  simp at e2
  omega
theorem nought_in (a b : Array UInt8) : (0 : UInt8) ∈ (a ++ #[0] ++ b).toList := by simp
theorem text_len (l : List Int) : (Txt.join (Str.ofString "") (l.map fun a => (⟨#[(1 + a.fmod 127).toNat]⟩ : Str))).length = l.length := by
  have := KT.join_ones (l.map fun a => (⟨#[(1 + a.fmod 127).toNat]⟩ : Str)) (fun a ha => by obtain ⟨b, _, e⟩ := List.mem_map.1 ha; rw [← e]; rfl)
  rw [this, List.length_map]
theorem signs_len (far : Int) (l : List Int) : (Txt.join (Str.ofString "") (l.map fun a => Txt.item (Str.ofString "./09AZaz") ((far + a).fmod 8))).length = l.length := by
  have := KT.join_ones (l.map fun a => Txt.item (Str.ofString "./09AZaz") ((far + a).fmod 8)) (fun a ha => by obtain ⟨b, _, e⟩ := List.mem_map.1 ha; rw [← e]; rfl)
  rw [this, List.length_map]
theorem sec0 (far : Int) (t : Tok) : SecP 0 (.bytes (byteArr (oct far)) t) [] := .octets _ _ (fun _ h => oct_ne h) (by rw [byteArr_size]; exact oct_len far)
theorem sec3 (far : Int) (t : Tok) : SecP 3 (.str (Txt.join (Str.ofString "") ((KBw.bInts (byteArr (oct far))).map fun a => (⟨#[(1 + a.fmod 127).toNat]⟩ : Str))) t) [] :=
  .text _ _ (text_mem _) (by rw [text_len, KBw.ints_length, byteArr_size]; exact oct_len far)
end Mine
end -- Pl
section -- Cu
open PySem PySem.W PySem.W.X PyProof.Rows PySem.Calls
namespace Mine
def Mark (p : Prop) : Prop := p
theorem mark {p : Prop} (h : Mark p) : p := h
theorem unmark {p : Prop} (h : p) : Mark p := h
/-- the end of a piece that is walked by itself -/
def CutEnd (s : Shared) (h₀ : Heap) (L : Addr) (m : Str → Option Value) (news : List (Addr × Obj)) (P : Value → Prop) (v : Value) (s' : Shared) : Prop :=
  ∃ h' k, s' = { s with heap := h', toks := k } ∧ P v ∧ Fr h₀ L h' m ∧ News h₀ L h' news
section
variable {M : Model} {A : Around} {E : Value → Shared → Prop} {s : Shared} {h₀ : Heap} {L : Addr} {m : Str → Option Value} {news news' : List (Addr × Obj)} {Q : Value → Shared → Prop} {t : Sem Value}
theorem CutEnd.intro {P : Value → Prop} {v : Value} {h' : Heap} {k : Nat} (F : Fr h₀ L h' m) (N : News h₀ L h' news') (hn : ∀ p ∈ news, p ∈ news') (p : P v) : CutEnd s h₀ L m news P v { s with heap := h', toks := k } :=
  ⟨h', k, rfl, p, F, fun q hq => N q (hn q hq)⟩
theorem cut (P : Value → Prop) (F : Fr h₀ L s.heap m) (N : News h₀ L s.heap news) (h1 : wpAny M A t (CutEnd s h₀ L m news P) E s)
    (h2 : ∀ v h' k, P v → Fr h₀ L h' m → News h₀ L h' news → Q v { s with heap := h', toks := k }) : wpAny M A t Q E s :=
  wpAny_mono h1 (fun v s' ⟨h', k, e, p, F', N'⟩ => e ▸ h2 v h' k p F' N') fun _ _ e => e
end
end Mine
end -- Cu
section -- Ba
open PySem PySem.W PySem.W.X PyProof.Rows PySem.Calls
set_option maxHeartbeats 8000000
namespace Mine
/-- what a call must give back: a value and its own objects 'ex' that P holds of; the frame and the ledger as they were -/
abbrev RetX (h₀ : Heap) (L : Addr) (m : Str → Option Value) (news : List (Addr × Obj)) (s : Shared) (Q : Value → Shared → Prop) (P : Value → List (Addr × Obj) → Prop) : Prop :=
  ∀ (v : Value) (h' : Heap) (tk' : Nat) (ex : List (Addr × Obj)), P v ex → Fr h₀ L h' m → News h₀ L h' news → News h₀ L h' ex → Q v { s with heap := h', toks := tk' }
theorem retx_of {h₀ : Heap} {L : Addr} {m : Str → Option Value} {news news' ex : List (Addr × Obj)} {s : Shared} {Q : Value → Shared → Prop} {P : Value → List (Addr × Obj) → Prop} {v : Value} {h' : Heap} {tk' : Nat}
    (h : RetX h₀ L m news s Q P) (F : Fr h₀ L h' m) (N : News h₀ L h' news') (hn : ∀ p ∈ news, p ∈ news') (p : P v ex) (hx : ∀ p ∈ ex, p ∈ news') : Q v { s with heap := h', toks := tk' } := h v h' tk' ex p F (fun q hq => N q (hn q hq)) fun q hq => N q (hx q hq)
/-- a contract for a call from a frame at depth dp -/
abbrev CtX (dp un : Nat) (w : World) (f : Addr) (vs : List Value) (P : Value → List (Addr × Obj) → Prop) : Prop :=
  ∀ (mean : ExcName → Option Value) (mg mb : Str → Option Value) (gd : Option (List Code)) (cn : Str) (nm : List (Str × NameKind)) (ig ic : Bool) (more : List (Str × Const)) (a : Addr) (ccd : Value) (cl : List (Str × Addr)) (outer : List Env) (A₀ : Around) (base h₀ : Heap) (L : Addr) (m : Str → Option Value) (news : List (Addr × Obj)) (s : Shared) (Q E : Value → Shared → Prop),
    Below A₀ base outer h₀ → Fr h₀ L s.heap m → (fr.heap_1 w.params).In h₀ → News h₀ L s.heap news → Top qv (looseW qv loose) mean mg mb h₀ → RetX h₀ L m news s Q P →
      wpAny (model PW w) (ktrTop dp un gd cn ⟨.function, nm, ig, ic, more⟩ L a ccd cl outer) (call (.ref f) vs) Q E s
end Mine
end -- Ba
section -- Tb
open PySem PySem.W PySem.W.X PyProof.Rows PySem.Calls
set_option maxHeartbeats 8000000
namespace Mine
abbrev CtT (w : World) (f : Addr) (vs : List Value) (news : List (Addr × Obj)) (P : Value → Prop) : Prop :=
  ∀ (mean : ExcName → Option Value) (mg mb : Str → Option Value) (gd : Option (List Code)) (cn : Str) (nm : List (Str × NameKind)) (ig ic : Bool) (more : List (Str × Const)) (a : Addr) (ccd : Value) (cl : List (Str × Addr)) (A₀ : Around) (base h₀ : Heap) (L : Addr) (m : Str → Option Value) (s : Shared) (Q E : Value → Shared → Prop),
    Below A₀ base [] h₀ → Fr h₀ L s.heap m → (fr.heap_1 w.params).In h₀ → News h₀ L s.heap news → Top qv (looseW qv loose) mean mg mb h₀ → (fr.heap_1 w.params).In base → Top qv (looseW qv loose) mean mg mb base → Ret h₀ L m news s Q P →
      wpAny (model PW w) (ktrTop 302 7 gd cn ⟨.function, nm, ig, ic, more⟩ L a ccd cl []) (call (.ref f) vs) Q E s
theorem beq_yes {a b : Int} {P Q : Prop} (h : a = b) (k : P) : if (a == b) = true then P else Q := by rw [if_pos (beq_iff_eq.mpr h)]; exact k
theorem beq_no {a b : Int} {P Q : Prop} (h : a ≠ b) (k : Q) : if (a == b) = true then P else Q := by rw [if_neg (by simpa using h)]; exact k
theorem bne_yes {a b : Int} {P Q : Prop} (h : a ≠ b) (k : P) : if (a != b) = true then P else Q := by rw [if_pos (by simpa using h)]; exact k
theorem bne_no {a b : Int} {P Q : Prop} (h : a = b) (k : Q) : if (a != b) = true then P else Q := by rw [if_neg (by simpa using h)]; exact k
end Mine
end -- Tb
section -- Sec2
open PySem PySem.W PySem.W.X PyProof.Rows PySem.Calls
set_option maxHeartbeats 8000000
namespace Mine
local macro_rules | `(tactic| wtm_at "z convS") => `(tactic| ((with_reducible show wpAny _ _ (convS (Value.type _)) _ _ _); refine convS_tstr ?_))
local macro_rules | `(tactic| wtm_at "z ite") => `(tactic| first | refine ite_yes (by omega) ?_ | refine ite_no (by omega) ?_)
theorem c_sec0 (w : World) (far : Int) (t1 t2 : Tok) : CtX 302 7 w (nat_lit 1285) [.int 0 t1, .int far t2] (SecP 0) := by
  unfold CtX
  intros
  rename_i hret
  k_steps
  refine retx_of hret (by assumption) (by assumption) (by kcj_all) (sec0 _ _) (by kcj_all)
theorem c_sec1 (w : World) (far : Int) (t1 t2 : Tok) : CtX 302 7 w (nat_lit 1285) [.int 1 t1, .int far t2] (SecP 1) := by
  unfold CtX
  intros
  rename_i hret
  k_steps
  refine retx_of hret (by assumption) (by assumption) (by kcj_all) (.nought _ _ (nought_in _ _)) (by kcj_all)
section
local macro_rules | `(tactic| wtm_at "z subscriptTail") => `(tactic| (k_here; (with_reducible show wpAny _ _ (subscriptTail _ _ (Value.ref _) (Value.int (Int.fmod _ 4) _)) _ _ _); refine mark ?_))
theorem c_sec2 (w : World) (far : Int) (t1 t2 : Tok) : CtX 302 7 w (nat_lit 1285) [.int 2 t1, .int far t2] (SecP 2) := by
  unfold CtX
  intros
  rename_i hret
  k_steps
  refine unmark ?_
  have h4 : far.fmod 4 = 0 ∨ far.fmod 4 = 1 ∨ far.fmod 4 = 2 ∨ far.fmod 4 = 3 := by
    have := fmod_lo far (n := 4) (by decide); have := fmod_hi far (n := 4) (by decide); omega
  rcases h4 with h | h | h | h <;> rw [h] <;> k_steps
  · exact retx_of hret (by assumption) (by assumption) (by kcj_all) .none (by kcj_all)
  · exact retx_of hret (by assumption) (by assumption) (by kcj_all) (.int _ _) (by kcj_all)
  · exact retx_of hret (by assumption) (by assumption) (by kcj_all) (.list _ _ _) (by kcj_all)
  · exact retx_of hret (by assumption) (by assumption) (by kcj_all) (.tuple _ _ _) (by kcj_all)
end
section
local macro_rules | `(tactic| wtm_at "z call builtin:str.join") => `(tactic| (k_here; (with_reducible show wpAny _ _ (call (Value.builtin "str.join") [Value.str _ _, Value.ref _]) _ _ _); (with_reducible rename CarriedAll _ (List.map _ _) => ktC); (refine KT.join_1 (by exact News.isList (by k_asm) (by k_mem)) ktC (by intro ktA ktM; rfl) ?_ ?_; rotate_left; intro _ _ ktE)))
local macro_rules | `(tactic| wtm_at "z eval ListComp") => `(tactic| (k_here; (with_reducible show wpAny _ _ (eval (Expr.ListComp _ [⟨_, Expr.Name _ _, [], 0⟩] _ _) _) _ _ _); k_dflt (refine ListComp_B (F₀ := by k_asm) (by with_unfolding_all rfl) (by decide) (by rfl) (by decide) (by rfl) ?_)))
theorem c_sec3 (w : World) (far : Int) (t1 t2 : Tok) : CtX 302 7 w (nat_lit 1285) [.int 3 t1, .int far t2] (SecP 3) := by
  unfold CtX
  intros
  rename_i hret
  k_steps
  k_dflt (refine SrcB.intro (by rfl) (by k_asm) (by k_asm) ?_ ?_)
  case refine_1 =>
    rw [show (byteArr (List.map (fun k' => 1 + (far + 37 * k').fmod 255) (rangeKs 0 (far.fmod 9 - 0).toNat))).size = (far.fmod 9 - 0).toNat from by simp [byteArr, rangeKs_length]]
    rw [PySem.sizeLine_eq]; omega
  intro g'
  refine kct_bytes (fun k => ⟨#[(1 + k.fmod 127).toNat]⟩) (fun k' t' I' oI' C' oC' D' m' ys' h' tk' E' hk' hC' hx' F' N' off' ne' => ?_) ?_
  · simp only [LCg.Off3, and_true] at off'
    (show KPfMark → _); intro hMark'
    have hb' := KBw.ints_in hk'
    (try k_fold)
    k_steps
    all_goals (refine LCg.CompEnd.intro (by assumption) (by assumption) _ (by kcj_all) (by assumption) trivial ⟨rfl, _, rfl⟩)
  · intro ys' ktC hL'
    (try k_fold)
    k_steps
    · exact retx_of hret (by assumption) (by assumption) (by kcj_all) (sec3 _ _) (by kcj_all)
    · have := oct_len far
      rw [KBw.ints_length, byteArr_size]
      show (oct far).length ≤ _
      omega
end
end Mine
end -- Sec2
section -- Sig2
open PySem PySem.W PySem.W.X PyProof.Rows PySem.Calls
set_option maxHeartbeats 8000000
namespace Mine
local macro_rules | `(tactic| wtm_at "z convS") => `(tactic| ((with_reducible show wpAny _ _ (convS (Value.type _)) _ _ _); refine convS_tstr ?_))
local macro_rules | `(tactic| wtm_at "z ite") => `(tactic| first | refine ite_yes (by omega) ?_ | refine ite_no (by omega) ?_)
section
local macro_rules | `(tactic| wtm_at "z call builtin:str.join") => `(tactic| (k_here; (with_reducible show wpAny _ _ (call (Value.builtin "str.join") [Value.str _ _, Value.ref _]) _ _ _); (with_reducible rename CarriedAll _ (List.map _ _) => ktC); (refine KT.join_1 (by exact News.isList (by k_asm) (by k_mem)) ktC (by intro ktA ktM; rfl) ?_ ?_; rotate_left; intro _ _ ktE)))
local macro_rules | `(tactic| wtm_at "z eval ListComp") => `(tactic| (k_here; (with_reducible show wpAny _ _ (eval (Expr.ListComp _ [⟨Expr.Name _ _, _, [], 0⟩] _ _) _) _ _ _); k_dflt (refine ListComp_M (F₀ := by k_asm) (by with_unfolding_all rfl) (by decide) (by rfl) (by decide) (by rfl) ?_)))
theorem c_signs (w : World) (far many : Int) (t1 t2 : Tok) (h0 : 0 ≤ many) (h1 : many ≤ 19) : CtX 303 10 w (nat_lit 1290) [.int far t1, .int many t2] (fun v _ => ∃ x t', v = .str x t' ∧ (x.length : Int) = many ∧ ∀ c ∈ x.cps.toList, Sgn c) := by
  unfold CtX
  intros
  rename_i hret
  k_steps
  k_dflt (refine LCg.CompSrc.range (by rfl) (by k_asm) (by k_asm) (by assumption) (by first | decide | exact small_one (by l_bnd) (by l_bnd) (by l_bnd) (by l_bnd)) (by first | exact rangeSize_nat _ _ | rfl) (by (rw [PySem.sizeLine_eq]; omega)) ?_; intro g')
  refine kct_range (fun k => Txt.item (Str.ofString "./09AZaz") ((far + k).fmod 8)) (fun k' t' I' oI' C' oC' D' m' ys' h' tk' E' hlo' hhi' hC' hx' F' N' off' ne' => ?_) ?_
  · simp only [LCg.Off3, and_true] at off'
    (show KPfMark → _); intro hMark'
    (try k_fold)
    k_steps
    all_goals (refine LCg.CompEnd.intro (by assumption) (by assumption) _ (by kcj_all) (by assumption) trivial ⟨rfl, _, rfl⟩)
  · (show ∀ ys, _); intro ys' ktC hL'
    (try k_fold)
    k_steps
    exact retx_of hret (by assumption) (by assumption) (by kcj_all) (ex := []) ⟨_, _, rfl, by rw [signs_len, rangeKs_length]; omega, signs_mem _ _⟩ (by kcj_all)
end
end Mine
end -- Sig2
section -- En
open PySem PySem.W PySem.W.X PyProof.Rows PySem.Calls PySem.Builtin
namespace Mine
/-- the bytes of a text whose signs all lie below 128 -/
def asc (x : Str) : Array UInt8 := (x.cps.toList.map fun c => c.toUInt8).toArray
theorem asc_size (x : Str) : (asc x).size = x.length := by simp [asc, PySem.Str.length]
theorem fold_asc (l : List Nat) (f : Nat → List UInt8) (hf : ∀ y ∈ l, f y = [y.toUInt8]) : ∀ a : Array UInt8, l.foldl (fun acc y => acc ++ (f y).toArray) a = a ++ (l.map fun c => c.toUInt8).toArray := by
  induction l with
  | nil => intro a; simp
  | cons y l ih =>
    intro a
    rw [List.foldl_cons, hf y (List.mem_cons_self ..), ih (fun z hz => hf z (List.mem_cons_of_mem _ hz))]
    apply Array.ext'
    simp
theorem findIdx_none {a : Array Nat} {p : Nat → Bool} (h : ∀ y ∈ a.toList, p y = false) : a.findIdx? p = none := by
  rw [Array.findIdx?_eq_none_iff]
  intro y hy
  exact h y (Array.mem_toList_iff.mpr hy)
theorem narrow_good (id : String) (self : Value) (c : _codecs.TextCodec) (x : Str) (hb : ∀ y ∈ x.cps.toList, c.bad y = false) (hf : ∀ y ∈ x.cps.toList, c.bytesOf y = [y.toUInt8]) (hs : x.length ≤ sizeLine) :
    _codecs.encodeNarrow id c none self x = pure (asc x) := by
  have e0 : x.cps.extract 0 x.cps.size = x.cps := by simp
  have hfold : Array.foldl (fun acc y => acc ++ (c.bytesOf y).toArray) #[] x.cps = asc x := by
    rw [← Array.foldl_toList, fold_asc _ _ hf]
    simp [asc]
  have hnone := findIdx_none (a := x.cps) (p := c.bad) hb
  unfold _codecs.encodeNarrow
  simp only [Std.Legacy.Range.forIn_eq_forIn_range']
  rw [show ([:x.length] : Std.Legacy.Range).size = x.length by simp [Std.Legacy.Range.size]]
  have hsz : x.length = x.cps.size := rfl
  cases hn : x.length with
  | zero =>
    have : asc x = #[] := by
      apply Array.eq_empty_of_size_eq_zero
      rw [asc_size, hn]
    rw [this]
    rfl
  | succ n =>
    have h0 : x.cps[0]? = some (x.cps[0]'(by omega)) := Array.getElem?_eq_getElem _
    have hb0 : c.bad (x.cps[0]'(by omega)) = false := hb _ (by simp)
    rw [List.range'_succ]
    simp only [List.forIn_cons]
    rw [h0]
    simp only [hb0]
    rw [if_neg (show ¬ ((#[] : Array UInt8).size > sizeLine) from Nat.not_lt_zero _)]
    simp only [Bool.not_false, if_true, e0, hnone, Option.getD_none, hfold, pure_bind]
    cases n with
    | zero => simp
    | succ n =>
      rw [List.range'_succ]
      simp only [List.forIn_cons]
      rw [if_neg (show ¬ ((asc x).size > sizeLine) by rw [asc_size]; omega)]
      rw [show x.cps[0 + x.cps.size]? = none by simp]
      simp
theorem ascii_road (id : String) (self : Value) (x : Str) : _codecs.encodeRoad id self x (Str.ofString "ascii") none = (do mkBytes (← _codecs.encodeNarrow id _codecs.asciiCodec none self x)) := by
  kernel_rfl
theorem utf8_road (id : String) (self : Value) (x : Str) : _codecs.encodeRoad id self x (Str.ofString "utf-8") none = (do mkBytes (← _codecs.encodeNarrow id _codecs.utf8Codec none self x)) := by
  kernel_rfl
theorem enc_entry (x : Str) (t t2 : Tok) (n : Str) (hn : n.cps.any (· ≥ 128) = false) (h0 : n.cps.contains 0 = false) : «str.encode» ⟨[.str x t, .str n t2], []⟩ = (do ret (← _codecs.encodeRoad "str.encode" (.str x t) x n none)) := by
  show (do
      let encoding := (← Str.codecArg "str.encode" "encode" "'encoding'" (some (.str n t2))).getD "utf-8"
      let errors ← Str.codecArg "str.encode" "encode" "'errors'" none
      ret (← _codecs.encodeRoad "str.encode" (.str x t) x encoding errors)) = _
  have : Str.codecArg "str.encode" "encode" "'encoding'" (some (.str n t2)) = pure (some n) := by
    unfold Str.codecArg
    show (if n.cps.any (· ≥ 128) = true then _ else _) = _
    rw [hn, h0]
    rfl
  rw [this]
  rfl
theorem meets_enc (x : Str) (t t2 : Tok) (n : Str) (c : _codecs.TextCodec) (hn : n.cps.any (· ≥ 128) = false) (h0 : n.cps.contains 0 = false) (hr : ∀ id self, _codecs.encodeRoad id self x n none = (do mkBytes (← _codecs.encodeNarrow id c none self x)))
    (hb : ∀ y ∈ x.cps.toList, c.bad y = false) (hf : ∀ y ∈ x.cps.toList, c.bytesOf y = [y.toUInt8]) (hs : x.length ≤ sizeLine) :
    Meets («str.encode» ⟨[.str x t, .str n t2], []⟩) (fun _ R s => ∀ t' k, R (.ok (.ret (.bytes (asc x) t'))) { s with toks := k }) := by
  refine .of_wp fun prog w A R s h => ?_
  rw [enc_entry x t t2 n hn h0, hr, narrow_good _ _ c x hb hf hs]
  refine wpAny_bind (wpAny_bind (wpAny_pure ?_))
  exact wpAny_mkBytes (wpAny_pure ⟨_, rfl, h _ _⟩) (by rw [asc_size]; exact hs)
section
variable {prog : Program} {w : World} {A : Around} {E : Value → Shared → Prop} {s : Shared} {x : Str} {t t2 : Tok} {Q : Value → Shared → Prop}
theorem enc_ascii (hb : ∀ y ∈ x.cps.toList, y < 128) (hs : x.length ≤ sizeLine) (h : ∀ t' k, Q (.bytes (asc x) t') { s with toks := k }) :
    wpAny (model prog w) A (call (.builtin "str.encode") [.str x t, .str (Str.ofString "ascii") t2]) Q E s :=
  call_meets F.slot_str_encode (typeIs_str _ _ _) F.entry_str_encode (F.args_str_encode_2 _ _) (meets_enc x t t2 _ _codecs.asciiCodec (by decide +kernel) (by decide +kernel) (fun _ _ => ascii_road _ _ _)
    (fun y hy => by have := hb y hy; show decide (y ≥ 128) = false; simp; omega) (fun _ _ => rfl) hs) h
theorem utf8Of_low {y : Nat} (h : y < 128) : Str.utf8Of y = [y.toUInt8] := by
  unfold Str.utf8Of
  simp; omega
theorem enc_utf8 (hb : ∀ y ∈ x.cps.toList, y < 128) (hs : x.length ≤ sizeLine) (h : ∀ t' k, Q (.bytes (asc x) t') { s with toks := k }) :
    wpAny (model prog w) A (call (.builtin "str.encode") [.str x t, .str (Str.ofString "utf-8") t2]) Q E s :=
  call_meets F.slot_str_encode (typeIs_str _ _ _) F.entry_str_encode (F.args_str_encode_2 _ _) (meets_enc x t t2 _ _codecs.utf8Codec (by decide +kernel) (by decide +kernel) (fun _ _ => utf8_road _ _ _)
    (fun y hy => by have := hb y hy; show Str.isSurrogate y = false; unfold Str.isSurrogate; simp; omega) (fun y hy => utf8Of_low (hb y hy)) hs) h
/-- the signs of a text as cInts -/
def cInts (x : Str) : List Int := x.cps.toList.map fun (c : Nat) => (c : Int)
theorem cInts_len (x : Str) : (cInts x).length = x.length := by simp [cInts, PySem.Str.length]
theorem asc_ints {x : Str} (hb : ∀ y ∈ x.cps.toList, y < 128) : KBw.bInts (asc x) = cInts x := by
  show ((x.cps.toList.map fun c => c.toUInt8).toArray.toList).map (fun (b : UInt8) => (b.toNat : Int)) = _
  rw [List.toList_toArray, List.map_map]
  apply List.map_congr_left
  intro c hc
  have := hb c hc
  show ((c.toUInt8.toNat : Nat) : Int) = c
  rw [Nat.toUInt8_eq, UInt8.toNat_ofNat']
  omega
theorem enc_asciiK (hb : ∀ y ∈ x.cps.toList, y < 128) (hs : x.length ≤ sizeLine) (h : ∀ b t' k, KBw.bInts b = cInts x → (cInts x).length = x.length → Q (.bytes b t') { s with toks := k }) :
    wpAny (model prog w) A (call (.builtin "str.encode") [.str x t, .str (Str.ofString "ascii") t2]) Q E s := enc_ascii hb hs fun _ _ => h _ _ _ (asc_ints hb) (cInts_len x)
theorem enc_utf8K (hb : ∀ y ∈ x.cps.toList, y < 128) (hs : x.length ≤ sizeLine) (h : ∀ b t' k, KBw.bInts b = cInts x → (cInts x).length = x.length → Q (.bytes b t') { s with toks := k }) :
    wpAny (model prog w) A (call (.builtin "str.encode") [.str x t, .str (Str.ofString "utf-8") t2]) Q E s := enc_utf8 hb hs fun _ _ => h _ _ _ (asc_ints hb) (cInts_len x)
theorem enc_method {M : Model} {pl : Sem Bool} {Q : Value × List Value → Shared → Prop} (h : Q (.builtin "str.encode", [.str x t]) s) : wpAny M A (getMethod (.str x t) (Str.ofString "encode") pl) Q E s := by
  refine getMethod_builtin (typeIs_str _ _ _) F.plainAttrs_str F.slot_str_encode F.type_str_encode (fun _ e => nomatch e) h
end
end Mine
end -- En
section -- Sp
open PySem PySem.W PySem.W.X PyProof.Rows PySem.Calls
namespace Mine
def NoMark : Prop := True
theorem noMark : NoMark := trivial
def SgnI (k : Int) : Prop := k = 46 ∨ k = 47 ∨ k = 48 ∨ k = 57 ∨ k = 65 ∨ k = 90 ∨ k = 97 ∨ k = 122
def BadI (k : Int) : Prop := k = 33 ∨ k = 45 ∨ k = 255 ∨ k = 0
/-- what '_law_block_salt' hands back -/
inductive SaltB (size : Int) : Int → Value → Prop
  | right (b : Array UInt8) (t : Tok) (ks : List Int) (hb : KBw.bInts b = ks) (hs : (ks.length : Int) = size) (hg : ∀ k ∈ ks, SgnI k) : SaltB size 0 (.bytes b t)
  | long (b : Array UInt8) (t : Tok) (ks : List Int) (hb : KBw.bInts b = ks) (hs : (ks.length : Int) ≠ size) (hl : ks.length ≤ 8) : SaltB size 1 (.bytes b t)
  | text (x : Str) (t : Tok) (hs : (x.length : Int) = size) : SaltB size 2 (.str x t)
  | sign (b : Array UInt8) (t : Tok) (k1 k2 : List Int) (n : Int) (hb : KBw.bInts b = k1 ++ [n] ++ k2) (hs : ((k1 ++ [n] ++ k2).length : Int) = size) (hn : BadI n) (h1 : ∀ k ∈ k1, SgnI k) (h2 : ∀ k ∈ k2, SgnI k) : SaltB size 3 (.bytes b t)
  | both (x : Str) (t : Tok) (hs : (x.length : Int) ≠ size) (hl : x.length ≤ 8) : SaltB size 4 (.str x t)
theorem sgnI_of {x : Str} (h : ∀ c ∈ x.cps.toList, Sgn c) : ∀ k ∈ cInts x, SgnI k := by
  intro k hk
  obtain ⟨c, hc, rfl⟩ := List.mem_map.1 hk
  have := h c hc
  unfold Sgn at this
  simp at this
  unfold SgnI
  omega
theorem sgn_low {x : Str} (h : ∀ c ∈ x.cps.toList, Sgn c) : ∀ c ∈ x.cps.toList, c < 128 := by
  intro c hc
  have := h c hc
  unfold Sgn at this
  simp at this
  omega
theorem saltB0 {x : Str} {size : Int} {b : Array UInt8} {t : Tok} (hl : (x.length : Int) = size) (hs : ∀ c ∈ x.cps.toList, Sgn c) (hb : KBw.bInts b = cInts x) : SaltB size 0 (.bytes b t) :=
  .right b t _ hb (by rw [cInts_len]; exact hl) (sgnI_of hs)
theorem saltB1 {x : Str} {size many : Int} {b : Array UInt8} {t : Tok} (hl : (x.length : Int) = many) (hm : many ≠ size) (h8 : many ≤ 8) (hb : KBw.bInts b = cInts x) : SaltB size 1 (.bytes b t) :=
  .long b t _ hb (by rw [cInts_len]; omega) (by rw [cInts_len]; omega)
theorem clip_in {n : Nat} {p : Int} (h0 : 0 ≤ p) : clipAt n p = min p.toNat n := by
  have := clipAt_nat n p.toNat
  rwa [Int.toNat_of_nonneg h0] at this
theorem saltB3 {x : Str} {size p : Int} {b : Array UInt8} {n : Int} {t : Tok} (hb : KBw.bInts b = List.take (clipAt (cInts x).length p) (cInts x) ++ [n] ++ List.take ((cInts x).length - clipAt (cInts x).length (p + 1)) (List.drop (clipAt (cInts x).length (p + 1)) (cInts x)))
    (hl : (x.length : Int) = size) (hs : ∀ c ∈ x.cps.toList, Sgn c) (h0 : 0 ≤ p) (h1 : p < size) (hn : BadI n) : SaltB size 3 (.bytes b t) := by
  refine .sign b t _ _ n hb ?_ hn (fun k hk => sgnI_of hs k (List.mem_of_mem_take hk)) fun k hk => sgnI_of hs k (List.mem_of_mem_drop (List.mem_of_mem_take hk))
  rw [clip_in h0, clip_in (by omega)]
  simp only [List.length_append, List.length_take, List.length_drop, List.length_cons, List.length_nil, cInts_len]
  omega
theorem saltB2 {x : Str} {size : Int} {t : Tok} (hl : (x.length : Int) = size) : SaltB size 2 (.str x t) := .text x t hl
theorem saltB4 {x : Str} {size many : Int} {t : Tok} (hl : (x.length : Int) = many) (hm : many ≠ size) (h8 : many ≤ 8) : SaltB size 4 (.str x t) := .both x t (by omega) (by omega)
end Mine
namespace Mine
/-- what '_law_text_salt' hands back -/
inductive SaltT (most : Int) : Int → Value → Prop
  | fit (x : Str) (t : Tok) (hl : (x.length : Int) ≤ most) (hg : ∀ c ∈ x.cps.toList, c < 128) : SaltT most 0 (.str x t)
  | long (x : Str) (t : Tok) (hl : most < (x.length : Int)) (h9 : x.length ≤ 19) (hg : ∀ c ∈ x.cps.toList, c < 128) : SaltT most 1 (.str x t)
  | bytes (k : Int) (hk : k = 2 ∨ k = 5) (b : Array UInt8) (t : Tok) : SaltT most k (.bytes b t)
  | sign (k : Int) (hk : k = 3 ∨ k = 4) (x : Str) (t : Tok) (h9 : x.length ≤ 20) (hb : ∃ c ∈ x.cps.toList, 128 ≤ c) : SaltT most k (.str x t)
end Mine
namespace Mine
theorem saltT0 {x : Str} {most : Int} {t : Tok} {n : Int} (hl : (x.length : Int) = n) (hs : ∀ c ∈ x.cps.toList, Sgn c) (hn : n ≤ most) : SaltT most 0 (.str x t) := .fit x t (by omega) (sgn_low hs)
theorem saltT1 {x : Str} {most : Int} {t : Tok} {n : Int} (hl : (x.length : Int) = n) (hs : ∀ c ∈ x.cps.toList, Sgn c) (hn : most < n) (h9 : n ≤ 19) : SaltT most 1 (.str x t) := .long x t (by omega) (by omega) (sgn_low hs)
theorem saltT3 {x : Str} {most : Int} {t : Tok} {n r : Int} (hl : (x.length : Int) = n) (h9 : n ≤ 19) (h0 : 0 ≤ r) : SaltT most 3 (.str (x ++ (⟨#[(128 + r).toNat]⟩ : Str)) t) := by
  refine .sign 3 (.inl rfl) _ t ?_ ⟨(128 + r).toNat, ?_, by omega⟩
  · show (x.cps ++ #[(128 + r).toNat]).size ≤ 20
    rw [Array.size_append]
    have : x.cps.size = x.length := rfl
    simp; omega
  · show _ ∈ (x.cps ++ #[(128 + r).toNat]).toList
    simp
theorem saltT4 {x : Str} {most : Int} {t : Tok} {n r : Int} (hl : (x.length : Int) = n) (h9 : n ≤ 19) (h0 : 0 ≤ r) : SaltT most 4 (.str ((⟨#[(128 + r).toNat]⟩ : Str) ++ x) t) := by
  refine .sign 4 (.inr rfl) _ t ?_ ⟨(128 + r).toNat, ?_, by omega⟩
  · show (#[(128 + r).toNat] ++ x.cps).size ≤ 20
    rw [Array.size_append]
    have : x.cps.size = x.length := rfl
    simp; omega
  · show _ ∈ (#[(128 + r).toNat] ++ x.cps).toList
    simp
end Mine
end -- Sp
section -- Bs4
open PySem PySem.W PySem.W.X PyProof.Rows PySem.Calls
set_option maxHeartbeats 8000000
namespace Mine
local macro_rules | `(tactic| wtm_at "z ite") => `(tactic| first | refine ite_yes (by omega) ?_ | refine ite_no (by omega) ?_)
local macro_rules | `(tactic| wtm_at "z call ref") => `(tactic| (k_here; (with_reducible show wpAny _ _ (call (Value.ref (nat_lit 1290)) _) _ _ _); k_dflt (refine c_signs _ _ _ _ _ (by omega) (by omega) _ _ _ _ _ _ _ _ _ _ _ _ _ _ _ _ _ _ _ _ _ _ (by k_asm) (by k_asm) (by k_in) (by k_asm) (by k_asm) ?_); (intro v' h' tk' ex' hP' F' N' Nx'); (obtain ⟨x', t', hv', hxl', hxs'⟩ := hP'); (subst hv'); clear Nx'))
local macro_rules | `(tactic| wtm_at "z getMethod str") => `(tactic| (k_here; (with_reducible show wpAny _ _ (getMethod (Value.str _ _) (Str.ofString "encode") _) _ _ _); refine enc_method ?_))
local macro_rules | `(tactic| wtm_at "z call builtin:str.encode") => `(tactic| (k_here; (with_reducible show wpAny _ _ (call (Value.builtin "str.encode") [Value.str _ _, Value.str (Str.ofString "ascii") _]) _ _ _); k_dflt (refine enc_asciiK (sgn_low (by assumption)) (by (rw [PySem.sizeLine_eq]; omega)) ?_); intro b' t' k' hbi' hbl'))
local macro_rules | `(tactic| wtm_at "z eval IfExp") => `(tactic| (k_here; (fail_if_success (with_reducible rename NoMark => nm')); refine mark ?_))
local macro_rules | `(tactic| wtm_at "z subscriptTail") => `(tactic| (k_here; (with_reducible show wpAny _ _ (subscriptTail _ _ (Value.ref _) (Value.int (Int.fmod _ 4) _)) _ _ _); (fail_if_success (with_reducible rename NoMark => nm')); refine mark ?_))
theorem c_bsalt (w : World) (kind far size : Int) (t1 t2 t3 : Tok) (hk0 : 0 ≤ kind) (hk4 : kind ≤ 4) (h2 : 2 ≤ size) (h4 : size ≤ 4) : CtX 302 7 w (nat_lit 1297) [.int kind t1, .int far t2, .int size t3] (fun v ex => SaltB size kind v ∧ ex = []) := by
  unfold CtX
  intros
  rename_i hret
  have hp0 : 0 ≤ (far.fdiv 9).fmod size := fmod_lo _ (by omega)
  have hp1 : (far.fdiv 9).fmod size < size := fmod_hi _ (by omega)
  k_steps
  refine unmark ?_
  refine cut (fun v => ∃ n t, v = .int n t ∧ n ≠ size ∧ 0 ≤ n ∧ n ≤ 8) (by k_asm) (by k_asm) ?_ ?_
  case refine_1 => 
    have nm : NoMark := trivial
    have hp0 : 0 ≤ far.fmod 9 := fmod_lo _ (by omega)
    have hp1 : far.fmod 9 < 9 := fmod_hi _ (by omega)
    k_steps
    all_goals (refine CutEnd.intro (by assumption) (by assumption) (by kcj_all) ⟨_, _, rfl, by omega, by omega, by omega⟩)
  intro v h' k hP F' N'
  obtain ⟨many, t', hv', hm1, hm2, hm3⟩ := hP
  subst hv'
  k_steps
  · obtain rfl : kind = 0 := by assumption
    exact retx_of hret (by assumption) (by assumption) (by kcj_all) (ex := []) ⟨saltB0 (by assumption) (by assumption) (by assumption), rfl⟩ (by kcj_all)
  · obtain rfl : kind = 1 := by assumption
    exact retx_of hret (by assumption) (by assumption) (by kcj_all) (ex := []) ⟨saltB1 (by assumption) hm1 hm3 (by assumption), rfl⟩ (by kcj_all)
  · obtain rfl : kind = 2 := by assumption
    exact retx_of hret (by assumption) (by assumption) (by kcj_all) (ex := []) ⟨saltB2 (by assumption), rfl⟩ (by kcj_all)
  · refine unmark ?_
    refine cut (fun v => ∃ n b t, v = .bytes b t ∧ KBw.bInts b = [n] ∧ BadI n) (by k_asm) (by k_asm) ?_ ?_
    case refine_1 =>
      have nm : NoMark := trivial
      have h4 : far.fmod 4 = 0 ∨ far.fmod 4 = 1 ∨ far.fmod 4 = 2 ∨ far.fmod 4 = 3 := by
        have := fmod_lo far (n := 4) (by decide); have := fmod_hi far (n := 4) (by decide); omega
      rcases h4 with h | h | h | h <;> rw [h] <;> k_steps
      all_goals (refine CutEnd.intro (by assumption) (by assumption) (by kcj_all) ⟨_, _, _, rfl, rfl, by (unfold BadI; decide)⟩)
    intro v h' k hP F' N'
    obtain ⟨n, b, t', hv', hbn, hbad⟩ := hP
    subst hv'
    k_steps
    obtain rfl : kind = 3 := by assumption
    exact retx_of hret (by assumption) (by assumption) (by kcj_all) (ex := []) ⟨saltB3 (by assumption) (by assumption) (by assumption) hp0 hp1 hbad, rfl⟩ (by kcj_all)
  · obtain rfl : kind = 4 := by omega
    exact retx_of hret (by assumption) (by assumption) (by kcj_all) (ex := []) ⟨saltB4 (by assumption) hm1 hm3, rfl⟩ (by kcj_all)
end Mine
end -- Bs4
section -- Ts
open PySem PySem.W PySem.W.X PyProof.Rows PySem.Calls
set_option maxHeartbeats 8000000
namespace Mine
local macro_rules | `(tactic| wtm_at "z ite") => `(tactic| first | refine ite_yes (by omega) ?_ | refine ite_no (by omega) ?_)
local macro_rules | `(tactic| wtm_at "z call ref") => `(tactic| (k_here; (with_reducible show wpAny _ _ (call (Value.ref (nat_lit 1290)) _) _ _ _); k_dflt (refine c_signs _ _ _ _ _ (by omega) (by omega) _ _ _ _ _ _ _ _ _ _ _ _ _ _ _ _ _ _ _ _ _ _ (by k_asm) (by k_asm) (by k_in) (by k_asm) (by k_asm) ?_); (intro v' h' tk' ex' hP' F' N' Nx'); (obtain ⟨x', t', hv', hxl', hxs'⟩ := hP'); (subst hv'); clear Nx'))
local macro_rules | `(tactic| wtm_at "z getMethod str") => `(tactic| (k_here; (with_reducible show wpAny _ _ (getMethod (Value.str _ _) (Str.ofString "encode") _) _ _ _); refine enc_method ?_))
local macro_rules | `(tactic| wtm_at "z call builtin:str.encode") => `(tactic| (k_here; (with_reducible show wpAny _ _ (call (Value.builtin "str.encode") [Value.str _ _, Value.str (Str.ofString "ascii") _]) _ _ _); k_dflt (refine enc_asciiK (sgn_low (by assumption)) (by (rw [PySem.sizeLine_eq]; omega)) ?_); intro b' t' k' hbi' hbl'))
theorem c_tsalt (w : World) (kind far most : Int) (t1 t2 t3 : Tok) (hk0 : 0 ≤ kind) (hk4 : kind ≤ 5) (h2 : 8 ≤ most) (h4 : most ≤ 16) : CtX 302 7 w (nat_lit 1304) [.int kind t1, .int far t2, .int most t3] (fun v ex => SaltT most kind v ∧ ex = []) := by
  unfold CtX
  intros
  rename_i hret
  have hp0 : 0 ≤ far.fmod (most + 1) := fmod_lo _ (by omega)
  have hp1 : far.fmod (most + 1) < most + 1 := fmod_hi _ (by omega)
  have hq0 : 0 ≤ far.fmod most := fmod_lo _ (by omega)
  have hq1 : far.fmod most < most := fmod_hi _ (by omega)
  have hr0 : 0 ≤ far.fmod 3 := fmod_lo _ (by omega)
  have hr1 : far.fmod 3 < 3 := fmod_hi _ (by omega)
  have hs0 : 0 ≤ far.fmod 900 := fmod_lo _ (by omega)
  have hs1 : far.fmod 900 < 900 := fmod_hi _ (by omega)
  k_steps
  · obtain rfl : kind = 0 := by assumption
    exact retx_of hret (by assumption) (by assumption) (by kcj_all) (ex := []) ⟨saltT0 (by assumption) (by assumption) (by omega), rfl⟩ (by kcj_all)
  · obtain rfl : kind = 1 := by assumption
    exact retx_of hret (by assumption) (by assumption) (by kcj_all) (ex := []) ⟨saltT1 (by assumption) (by assumption) (by omega) (by omega), rfl⟩ (by kcj_all)
  · obtain rfl : kind = 2 := by assumption
    exact retx_of hret (by assumption) (by assumption) (by kcj_all) (ex := []) ⟨.bytes 2 (.inl rfl) _ _, rfl⟩ (by kcj_all)
  · obtain rfl : kind = 3 := by assumption
    exact retx_of hret (by assumption) (by assumption) (by kcj_all) (ex := []) ⟨saltT3 (by assumption) (by omega) (by omega), rfl⟩ (by kcj_all)
  · obtain rfl : kind = 4 := by assumption
    exact retx_of hret (by assumption) (by assumption) (by kcj_all) (ex := []) ⟨saltT4 (by assumption) (by omega) (by omega), rfl⟩ (by kcj_all)
  · obtain rfl : kind = 5 := by omega
    exact retx_of hret (by assumption) (by assumption) (by kcj_all) (ex := []) ⟨.bytes 5 (.inr rfl) _ _, rfl⟩ (by kcj_all)
end Mine
end -- Ts
section -- Du
open PySem PySem.W PySem.W.X PyProof.Rows PySem.Calls
set_option maxHeartbeats 8000000
namespace Mine
def blockDue (way kind fault : Int) : Str :=
  if way = 0 ∧ (fault = 1 ∨ fault = 4) then Str.ofString "AssertionError"
  else if fault = 2 ∨ fault = 4 then Str.ofString "TypeError"
  else if fault = 1 ∨ fault = 3 then Str.ofString "ValueError"
  else if kind = 2 then Str.ofString "AssertionError" else if kind = 1 then Str.ofString "PasswordValueError" else Str.ofString "ValueError"
def textDue (kind fault bounds : Int) : Str :=
  if kind = 2 then Str.ofString "AssertionError" else if kind = 1 then Str.ofString "PasswordValueError"
  else if bounds ≠ 0 then Str.ofString "AssertionError"
  else if fault = 0 then Str.ofString "hashed" else if fault = 3 ∨ fault = 4 then Str.ofString "ValueError" else Str.ofString "AssertionError"
theorem str_at {a b : Str} {t : Tok} (h : a = b) : ∃ t', Value.str a t = .str b t' := ⟨t, by rw [h]⟩
theorem any2t {a b f : Int} : ([a, b].any fun x => x == f) = true ↔ (f = a ∨ f = b) := by simp; omega
theorem any2f {a b f : Int} : ([a, b].any fun x => x == f) = false ↔ (f ≠ a ∧ f ≠ b) := by simp; omega
theorem c_block_due (w : World) (way kind fault : Int) (t1 t2 t3 : Tok) : CtX 302 7 w (nat_lit 1318) [.int way t1, .int kind t2, .int fault t3] (fun v ex => (∃ t', v = .str (blockDue way kind fault) t') ∧ ex = []) := by
  unfold CtX
  intros
  rename_i hret
  k_steps
  all_goals (refine retx_of hret (by assumption) (by assumption) (by kcj_all) (ex := []) ⟨str_at ?_, rfl⟩ (by kcj_all))
  all_goals (clear hret; simp only [any2t, any2f] at *)
  all_goals (unfold blockDue; (repeat' split) <;> first | rfl | (exfalso; omega))
section
local macro_rules | `(tactic| wtm_at "z subscriptTail") => `(tactic| (k_here; (with_reducible show wpAny _ _ (subscriptTail _ _ (Value.ref _) (Value.int _ _)) _ _ _); (fail_if_success (with_reducible rename NoMark => nm')); refine mark ?_))
theorem c_text_due (w : World) (kind fault bounds : Int) (t1 t2 t3 : Tok) (h0 : 0 ≤ fault) (h1 : fault ≤ 5) : CtX 302 7 w (nat_lit 1325) [.int kind t1, .int fault t2, .int bounds t3] (fun v ex => (∃ t', v = .str (textDue kind fault bounds) t') ∧ ex = []) := by
  unfold CtX
  intros
  rename_i hret
  k_steps
  all_goals first
    | ((refine retx_of hret (by assumption) (by assumption) (by kcj_all) (ex := []) ⟨str_at ?_, rfl⟩ (by kcj_all)); clear hret; (unfold textDue; (repeat' split) <;> first | rfl | (exfalso; omega)); done)
    | skip
  refine unmark ?_
  have nm : NoMark := trivial
  have h6 : fault = 0 ∨ fault = 1 ∨ fault = 2 ∨ fault = 3 ∨ fault = 4 ∨ fault = 5 := by omega
  rcases h6 with h | h | h | h | h | h <;> rw [h] <;> k_steps
  all_goals ((refine retx_of hret (by assumption) (by assumption) (by kcj_all) (ex := []) ⟨str_at ?_, rfl⟩ (by kcj_all)); clear hret; (unfold textDue; (repeat' split) <;> first | rfl | (exfalso; omega)))
end
end Mine
end -- Du
section -- Dc
open PySem PySem.W PySem.W.X PyProof.Rows PySem.Calls
namespace Mine
/-- a bound '__getitem__' of a dict -/
def boundD (d : Addr) : Obj := { cls := .type "builtin_function_or_method", data := .fields #[.builtin "dict.__getitem__", .ref d] }
def esOf : Option Obj → Array DictEntry
  | some ⟨_, _, .dict es _, _⟩ => es
  | _ => #[]
def isI : Option Value → Bool
  | some (.int n _) => decide (0 ≤ n) && decide (n < 64)
  | _ => false
theorem isI_of {o : Option Value} (h : isI o = true) : ∃ n t, o = some (.int n t) ∧ 0 ≤ n ∧ n < 64 := by
  unfold isI at h
  split at h
  · rename_i n t
    simp at h
    exact ⟨n, t, rfl, h.1, h.2⟩
  · cases h
def keyOkI (e : DictEntry) : Bool := match e.key with
  | .int k _ => e.hash == hashInt k
  | _ => false
theorem keys_of {prog : Program} {w : World} {es : Array DictEntry} (h : es.toList.all keyOkI = true) : KeysOf (PySem.intKind prog w) es := by
  intro e he
  have := List.all_eq_true.mp h e (Array.mem_toList_iff.mpr he)
  unfold keyOkI at this
  split at this
  · rename_i k t hk
    refine ⟨k, ?_, by have h2 : e.hash = hashInt k := by simpa using this
                      exact h2⟩
    rw [hk]
    show Value.isInt k (.int k t) = true
    simp [Value.isInt]
  · cases this
noncomputable def o320 (P : Params) : Array DictEntry := esOf ((fr.heap_1 P).lookup (nat_lit 320))
theorem at320 (P : Params) : (fr.heap_1 P).lookup (nat_lit 320) = some ⟨.type "dict", none, .dict (o320 P) (nat_lit 64), #[]⟩ := by kernel_rfl
theorem at647 (P : Params) : (fr.heap_1 P).lookup (nat_lit 647) = some (boundD (nat_lit 320)) := by kernel_rfl
theorem keys320 (P : Params) : (o320 P).toList.all keyOkI = true := by kernel_rfl
theorem good320 (P : Params) (k : Int) (h : SgnI k) : isI (findBy Value.isInt (o320 P) k) = true := by
  rcases h with rfl | rfl | rfl | rfl | rfl | rfl | rfl | rfl <;> kernel_rfl
theorem bad320 (P : Params) (k : Int) (h : BadI k) : findBy Value.isInt (o320 P) k = none := by
  rcases h with rfl | rfl | rfl | rfl <;> kernel_rfl
theorem map320 {prog : Program} {w : World} {h : Heap} {P : Params} (X : (fr.heap_1 P).In h) : h.MapOf (PySem.intKind prog w) (nat_lit 320) (fun k => findBy Value.isInt (o320 P) k) :=
  ⟨_, o320 P, _, X _ _ (at320 P), ⟨rfl, rfl, rfl⟩, rfl, keys_of (keys320 P), fun _ => rfl⟩
section
variable {prog : Program} {w : World} {M : Model} {A : Around} {E : Value → Shared → Prop} {s : Shared} {h₀ : Heap} {L : Addr} {m : PySem.Str → Option Value} {d : Addr} {k : Int} {t : Tok}
theorem sig_get : Manifest.signature? "dict.__getitem__" = some ⟨.oneArg, "dict.__getitem__", "__getitem__", .self, [⟨"key", .posOnly, true⟩]⟩ := by
  rw [signature?_of (id := "dict.__getitem__") (n := ['_', '_', 'm', 'e', 't', 'i', 't', 'e', 'g', '_', '_']) (o := ['t', 'c', 'i', 'd']) (by kernel_rfl) (by first | rfl | kernel_rfl | decide +kernel)]; kernel_rfl
theorem check_bound {Q : Unit → Shared → Prop} (hT : s.TypeIs (.ref d) "dict") {o : Obj} (ho : s.heap.get? d = some o) (hnc : ∀ c, o.data ≠ .cls c) (h : Q () s) : wpAny M A (checkBoundCall "dict.__getitem__" ⟨[.ref d, .int k t], []⟩) Q E s := by
  unfold checkBoundCall
  rw [sig_get]
  simp only [show builtinKind "dict.__getitem__" = some .method from by decide +kernel]
  rw [if_neg (by decide)]
  refine wpAny_bind (wpAny_isInstance hT (b := false) (by rw [isSubtype_type]; kernel_rfl) ?_)
  rw [if_neg (by decide +kernel)]
  refine wpAny_bind (m := isType (.ref d)) ?_
  refine ks_wpAny_isType_inst (h := s.heap) (g := s.gens) (d := s.drawn) (t := s.toks) (os := s.os) ho hnc ?_
  rw [if_neg (by decide)]
  refine wpAny_bind (wpAny_typeOf hT ?_)
  dsimp only
  refine wpAny_of_eq (a := ()) ?_ h
  kernel_rfl
theorem callWith_fieldsD {x : Addr} {pos : Pos} {first : List Value} {args : List (Bool × Sem Value)} {Q : Value → Shared → Prop} (hplain : args.any (·.1) = false)
    (h : wpAny M A (evalArgs (.ref x) true args []) (fun a s₁ => s₁.heap.get? x = some (boundD d) ∧ wpAny M A (call (.ref x) (first ++ a.pos) a.kw) Q E s₁) E s) : wpAny M A (callWith pos (.ref x) first args []) Q E s := by
  unfold callWith
  refine wpAny_bind (wpAny_holding (wpAny_mono h (fun x s₁ h₁ => wpAny_bind (wpAny_standAt ?_)) fun _ _ x => x))
  obtain ⟨ho, hcall⟩ := h₁
  simp only [hplain, List.any_nil, Bool.or_false]
  refine wpAny_bind (m := keeperOf (.ref _)) ?_
  unfold keeperOf
  refine wpAny_bind (wpAny_load ho ?_)
  simp only [boundD, show (Value.type "builtin_function_or_method" != Value.type "method") = true by decide, show (Value.type "builtin_function_or_method" == Value.type "builtin_function_or_method" || Value.type "builtin_function_or_method" == Value.type "method-wrapper") = true by decide, if_true]
  refine wpAny_pure ?_
  exact wpAny_bind (wpAny_mono hcall (fun r s₂ hr => wpAny_bind (wpAny_holding (wpAny_point (wpAny_pure hr)))) fun _ _ x => x)
theorem callWith_boundD {x : Addr} {pos : Pos} {first : List Value} {env : Env} {e : Expr} {rest : List Expr} {Q : Value → Shared → Prop}
    (h : wpAny M A (spliced (backTo pos (starEach (e :: rest) env))) (fun vs s₁ => s₁.heap.get? x = some (boundD d) ∧ wpAny M A (call (.ref x) (first ++ vs)) Q E s₁) E s)
    (he : starEach (e :: rest) env = (false, eval e env) :: starEach rest env := by rfl) (hplain : (backTo pos (starEach rest env)).any (·.1) = false := by rfl) :
    wpAny M A (callWith pos (.ref x) first (backTo pos (starEach (e :: rest) env)) []) Q E s := by
  rw [he] at h ⊢
  refine callWith_fieldsD (d := d) (by show (false || (backTo pos (starEach rest env)).any (·.1)) = false; rw [hplain]; rfl) ?_
  exact evalArgs_plain h
theorem call_bound {x : Addr} {o : Obj} {Q : Value → Shared → Prop} (hb : s.heap.get? x = some (boundD d)) (hT : s.TypeIs (.ref d) "dict") (ho : s.heap.get? d = some o) (hnc : ∀ c, o.data ≠ .cls c) {S : PySem.Spec} (g : MeetsIn prog w (Builtin.«dict.__getitem__» ⟨[.ref d, .int k t], []⟩) S)
    (h : S A (wants Q E) s) : wpAny (model prog w) A (call (.ref x) [.int k t]) Q E s := by
  refine wpAny_call (codeAny_of_tree ?_)
  show wpAny _ A.in1 (callAny (.ref x) ⟨[.int k t], []⟩) _ _ s
  simp only [callAny]
  refine wpAny_bind (wpAny_load hb ?_)
  simp only [boundD, show (Value.type "builtin_function_or_method" == Value.type "method" || Value.type "builtin_function_or_method" == Value.type "builtin_function_or_method" || Value.type "builtin_function_or_method" == Value.type "method-wrapper") = true by decide, if_true]
  refine KFB.if_so (by decide) ?_
  refine wpAny_bind (check_bound hT ho hnc ?_)
  refine wpAny_bind (wpAny_pure (wpAny_pure ?_))
  exact ⟨Code.quiet_builtin _ (by decide +kernel), codeAny_builtin F.entry_dict_getitem (g A (wants Q E) s h)⟩
theorem dec_good {P : Params} {Q : Value → Shared → Prop} (X : (fr.heap_1 P).In s.heap) (hk : SgnI k) (h : ∀ n t', 0 ≤ n → n < 64 → Q (.int n t') { s with toks := s.toks + 1 }) :
    wpAny (model prog w) A (call (.ref (nat_lit 647)) [.int k t]) Q E s := by
  obtain ⟨n, t', e, h0, h1⟩ := isI_of (good320 P k hk)
  have hm := map320 (prog := prog) (w := w) X
  refine call_bound (X _ _ (at647 P)) hm.typeIs (X _ _ (at320 P)) (fun c e => by cases e) (meets_dict_getitem (PySem.intKind prog w) _ (k := k) ?_) ⟨_, .int n t', hm, e, h n t' h0 h1⟩
  show Value.isInt k (.int k t) = true
  simp [Value.isInt]
theorem dec_bad {P : Params} {Q : Value → Shared → Prop} (X : (fr.heap_1 P).In s.heap) (hk : BadI k) (hh : A.handled = none) (h : ∀ h' e, Heap.NewExc s.heap h' e "KeyError" → E (.ref e) { s with heap := h', toks := s.toks + 1 }) :
    wpAny (model prog w) A (call (.ref (nat_lit 647)) [.int k t]) Q E s := by
  have hm := map320 (prog := prog) (w := w) X
  refine call_bound (X _ _ (at647 P)) hm.typeIs (X _ _ (at320 P)) (fun c e => by cases e) (meets_dict_getitem_missing (PySem.intKind prog w) (nat_lit 320) (k := k) ?_ (by decide)) ⟨hh, _, hm, bad320 P k hk, h⟩
  show Value.isInt k (.int k t) = true
  simp [Value.isInt]
section
variable {b : Array UInt8} {value slice : PySem.Expr} {ui : Tok} {Q : Value → Shared → Prop} {r : List Int} {k0 k1 k2 k3 : Int}
theorem item_at {ks : List Int} {i k : Int} (hk : KBw.bInts b = ks) (hl : ks.length ≤ 8) (h0 : 0 ≤ i) (h1 : i < ks.length) (e : ks.getD i.toNat 0 = k) (h : ∀ t' k', Q (.int k t') { s with toks := k' })
    (hs : subscripted slice false (.bytes b t) (.int i ui) = operate [.bytes b t, .int i ui] (getItem (.bytes b t) (.int i ui)))
    (ht : ∀ r, letTemporaryGo value (.bytes b t) r = pure ()) : wpAny (model prog w) A (subscriptTail value slice (.bytes b t) (.int i ui)) Q E s :=
  KBw.item_K hk (by omega) h0 h1 (fun t' k' _ _ => e ▸ h t' k') hs ht
theorem item_0 (hk : KBw.bInts b = k0 :: r) (hl : (k0 :: r).length ≤ 8) (h : ∀ t' k', Q (.int k0 t') { s with toks := k' })
    (hs : subscripted slice false (.bytes b t) (.int 0 ui) = operate [.bytes b t, .int 0 ui] (getItem (.bytes b t) (.int 0 ui)) := by with_unfolding_all rfl)
    (ht : ∀ r, letTemporaryGo value (.bytes b t) r = pure () := by intro _; with_unfolding_all rfl) : wpAny (model prog w) A (subscriptTail value slice (.bytes b t) (.int 0 ui)) Q E s :=
  item_at hk hl (by omega) (by simp only [List.length_cons]; omega) rfl h hs ht
theorem item_1 (hk : KBw.bInts b = k0 :: k1 :: r) (hl : (k0 :: k1 :: r).length ≤ 8) (h : ∀ t' k', Q (.int k1 t') { s with toks := k' })
    (hs : subscripted slice false (.bytes b t) (.int 1 ui) = operate [.bytes b t, .int 1 ui] (getItem (.bytes b t) (.int 1 ui)) := by with_unfolding_all rfl)
    (ht : ∀ r, letTemporaryGo value (.bytes b t) r = pure () := by intro _; with_unfolding_all rfl) : wpAny (model prog w) A (subscriptTail value slice (.bytes b t) (.int 1 ui)) Q E s :=
  item_at hk hl (by omega) (by simp only [List.length_cons]; omega) rfl h hs ht
theorem item_2 (hk : KBw.bInts b = k0 :: k1 :: k2 :: r) (hl : (k0 :: k1 :: k2 :: r).length ≤ 8) (h : ∀ t' k', Q (.int k2 t') { s with toks := k' })
    (hs : subscripted slice false (.bytes b t) (.int 2 ui) = operate [.bytes b t, .int 2 ui] (getItem (.bytes b t) (.int 2 ui)) := by with_unfolding_all rfl)
    (ht : ∀ r, letTemporaryGo value (.bytes b t) r = pure () := by intro _; with_unfolding_all rfl) : wpAny (model prog w) A (subscriptTail value slice (.bytes b t) (.int 2 ui)) Q E s :=
  item_at hk hl (by omega) (by simp only [List.length_cons]; omega) rfl h hs ht
theorem item_3 (hk : KBw.bInts b = k0 :: k1 :: k2 :: k3 :: r) (hl : (k0 :: k1 :: k2 :: k3 :: r).length ≤ 8) (h : ∀ t' k', Q (.int k3 t') { s with toks := k' })
    (hs : subscripted slice false (.bytes b t) (.int 3 ui) = operate [.bytes b t, .int 3 ui] (getItem (.bytes b t) (.int 3 ui)) := by with_unfolding_all rfl)
    (ht : ∀ r, letTemporaryGo value (.bytes b t) r = pure () := by intro _; with_unfolding_all rfl) : wpAny (model prog w) A (subscriptTail value slice (.bytes b t) (.int 3 ui)) Q E s :=
  item_at hk hl (by omega) (by simp only [List.length_cons]; omega) rfl h hs ht
end
theorem at647_in {P : Params} {h : Heap} (X : (fr.heap_1 P).In h) : h.get? (nat_lit 647) = some (boundD (nat_lit 320)) := X _ _ (at647 P)
end
end Mine
namespace Mine
theorem dec_fork {prog : Program} {w : World} {A : Around} {E : Value → Shared → Prop} {s : Shared} {k : Int} {t : Tok} {P : Params} {Q : Value → Shared → Prop} (X : (fr.heap_1 P).In s.heap) (hk : SgnI k ∨ BadI k) (hh : A.handled = none)
    (hg : SgnI k → ∀ n t', 0 ≤ n → n < 64 → Q (.int n t') { s with toks := s.toks + 1 }) (hb : BadI k → ∀ h' e, Heap.NewExc s.heap h' e "KeyError" → E (.ref e) { s with heap := h', toks := s.toks + 1 }) :
    wpAny (model prog w) A (call (.ref (nat_lit 647)) [.int k t]) Q E s := by
  rcases hk with hk | hk
  · exact dec_good X hk (hg hk)
  · exact dec_bad X hk hh (hb hk)
end Mine
end -- Dc
section -- Bi
open PySem PySem.W PySem.W.X PyProof.Rows PySem.Calls PySem.Builtin
namespace Mine
theorem slot_contains : Slot "bytes" "__contains__" "bytes.__contains__" :=
  .of (owner := "bytes") (n := "__contains__") (by rw [typeLookup_type, builtinLookup_eq_fast]; kernel_rfl) (by decide +kernel) (by decide +kernel) (by decide +kernel)
    (by first | exact .inl (by decide +kernel) | exact .inr (by decide +kernel)) (by rw [isSubtype_type]; kernel_rfl)
theorem entry_contains : entryFor table "bytes.__contains__" = some «bytes.__contains__» := entryFor_of_tree (by kernel_rfl)
theorem args_contains (a b : Value) : argsOk "bytes.__contains__" ⟨[a, b], []⟩ := by unfold argsOk; kernel_rfl
theorem noIndexB : typeLookup (.type "bytes") "__index__" = pure none := by rw [typeLookup_type, builtinLookup_eq_fast]; kernel_rfl
theorem no_int {b : Array UInt8} {t : Tok} : asInt? (.bytes b t) = pure none := by rfl
section
variable {M : Model} {A : Around} {E : Value → Shared → Prop} {s : Shared} {b c : Array UInt8} {t u : Tok}
theorem as_index {Q : Int → Shared → Prop} (hh : A.handled = none) (h : ∀ h' tk e, Heap.NewExc s.heap h' e "TypeError" → E (.ref e) { s with heap := h', toks := tk }) : wpAny M A (asIndex (.bytes b t)) Q E s := by
  unfold asIndex
  refine wpAny_bind (wpAny_of_eq (no_int (b := b) (t := t)) ?_)
  refine wpAny_bind (wpAny_callSpecial?_none (name := Str.ofString "__index__") (typeIs_bytes _ _ _) noIndexB ?_)
  show wpAny M A (typeNameOfCut 200 (.bytes b t) >>= fun n => raiseError "TypeError" _) _ _ _
  refine wpAny_bind (wpAny_of_eq (a := "bytes") (by kernel_rfl) ?_)
  exact wpAny_raiseTypeError hh h
theorem wp_contains {Q : Bool → Shared → Prop} (hh : A.handled = none) (h : ∀ h' tk, (∀ a o, s.heap.get? a = some o → h'.get? a = some o) → Q (Bytes.find? b c 0 b.size).isSome { s with heap := h', toks := tk }) :
    wpAny M A (Bytes.containsIn "bytes.__contains__" (.bytes b t) (.bytes c u)) Q E s := by
  unfold Bytes.containsIn
  refine wpAny_bind (wpAny_attempt (as_index hh fun h' tk e he => ?_))
  refine wpAny_bind (wpAny_of_eq KBy.buffer_eq ?_)
  refine wpAny_bind (wpAny_of_eq KBy.buffer_eq ?_)
  refine wpAny_bind (wpAny_rule ?_)
  exact wpAny_pure (h h' tk he.keeps)
end
section
variable {prog : Program} {w : World} {A : Around} {E : Value → Shared → Prop} {s : Shared} {b c : Array UInt8} {t u : Tok}
theorem meets_contains : Meets («bytes.__contains__» ⟨[.bytes b t, .bytes c u], []⟩) (fun A R s => A.handled = none ∧ ∀ h' tk, (∀ a o, s.heap.get? a = some o → h'.get? a = some o) → R (.ok (.ret (.bool (Bytes.find? b c 0 b.size).isSome))) { s with heap := h', toks := tk }) := by
  refine .of_wp fun prog w A R s hS => ?_
  show wpAny _ _ (Bytes.containsIn "bytes.__contains__" (.bytes b t) (.bytes c u) >>= fun r => ret (.bool r)) _ _ s
  exact wpAny_bind (wp_contains hS.1 fun h' tk hk => wpAny_pure ⟨_, rfl, hS.2 h' tk hk⟩)
theorem in_bytes {h₀ : Heap} {L : Addr} {m : PySem.Str → Option Value} {news : List (Addr × Obj)} {Q : Value → Shared → Prop} (hh : A.handled = none) (F : Fr h₀ L s.heap m) (N : News h₀ L s.heap news)
    (h : ∀ h' tk, Fr h₀ L h' m → News h₀ L h' news → Q (.bool (Bytes.find? b c 0 b.size).isSome) { s with heap := h', toks := tk }) : wpAny (model prog w) A (compareOp .In (.bytes c u) (.bytes b t)) Q E s := by
  show wpAny _ _ (do return .bool (← contains (.bytes b t) (.bytes c u))) Q E s
  refine wpAny_bind (wpAny_contains_slot (typeIs_bytes _ _ _) slot_contains (call_meets (Q := fun v s' => wpAny _ A (truthy v) (fun b s'' => wpAny _ A (pure (Value.bool b)) Q E s'') E s') slot_contains (typeIs_bytes _ _ _) entry_contains (args_contains _ _) meets_contains ⟨hh, fun h' tk hk => wpAny_pure (wpAny_pure (h h' tk (F.keeps hk) (N.grown hk)))⟩))
theorem find_nought {b : Array UInt8} : (Bytes.find? b #[0] 0 b.size).isSome = decide (0 ∈ KBw.bInts b) := by
  unfold Bytes.find?
  rw [Bool.eq_iff_iff, List.find?_isSome, decide_eq_true_iff]
  constructor
  · rintro ⟨i, hi, he⟩
    simp only [List.mem_map, List.mem_range] at hi
    obtain ⟨j, hj, rfl⟩ := hi
    have hj2 : j + 0 < b.size := by simpa using hj
    have he2 : b.extract (j + 0) (j + 0 + (#[(0 : UInt8)]).size) = #[0] := by simpa using he
    have h0 : (b.extract (j + 0) (j + 0 + 1))[0]? = some 0 := by
      rw [show j + 0 + 1 = j + 0 + (#[(0 : UInt8)]).size from rfl, he2]; rfl
    rw [Array.getElem?_extract] at h0
    split at h0
    · have h1 : b[j + 0 + 0]? = some 0 := h0
      have hm : (0 : UInt8) ∈ b := Array.mem_of_getElem? h1
      exact List.mem_map.mpr ⟨0, Array.mem_toList_iff.mpr hm, rfl⟩
    · cases h0
  · intro h
    obtain ⟨c, hc, e⟩ := List.mem_map.mp h
    have hc0 : c = 0 := by
      apply UInt8.toNat_inj.mp
      have : (c.toNat : Int) = 0 := e
      simpa using this
    subst hc0
    obtain ⟨i, hi, e2⟩ := List.getElem_of_mem hc
    have hib : i < b.size := by simpa using hi
    refine ⟨i, List.mem_map.mpr ⟨i, List.mem_range.mpr (by simpa using hib), rfl⟩, ?_⟩
    rw [beq_iff_eq]
    apply Array.ext
    · simp; omega
    · intro k h1 h2
      have : k = 0 := by simp at h2; exact h2
      subst this
      simpa using e2
end
end Mine
end -- Bi
section -- Oi
open PySem PySem.W PySem.W.X PyProof.Rows PySem.Calls
namespace Mine
/-- what is neither a str nor a bytes -/
inductive Other (h : Heap) : Value → Prop
  | none : Other h .none
  | int (k : Int) (t : Tok) : Other h (.int k t)
  | list (a : Addr) (p : KitAt a "list" h) : Other h (.ref a)
  | tuple (a : Addr) (p : KitAt a "tuple" h) : Other h (.ref a)
section
variable {prog : Program} {w : World} {A : Around} {E : Value → Shared → Prop} {s : Shared} {v : Value} {Q : Value → Shared → Prop}
theorem nil_in {h : Heap} : Frag.In [] h := fun a o e => by cases e
theorem isi_str (O : Other s.heap v) (h : ∀ tk, Q (.bool false) { s with toks := tk }) : wpAny (model prog w) A (call (.builtin "isinstance") [v, .type "str"]) Q E s := by
  cases O with
  | none => exact kia_one (K := []) kitx_none nil_in trivial (by kernel_rfl) (by intro q; cases q) h
  | int k t => exact kia_one (K := []) kitx_int nil_in trivial (by kernel_rfl) (by intro q; cases q) h
  | list a p => exact kia_one (K := []) kitx_list nil_in p (by kernel_rfl) (by intro q; cases q) h
  | tuple a p => exact kia_one (K := []) kitx_tuple nil_in p (by kernel_rfl) (by intro q; cases q) h
theorem isi_bytes (O : Other s.heap v) (h : ∀ tk, Q (.bool false) { s with toks := tk }) : wpAny (model prog w) A (call (.builtin "isinstance") [v, .type "bytes"]) Q E s := by
  cases O with
  | none => exact kia_one (K := []) kitx_none nil_in trivial (by kernel_rfl) (by intro q; cases q) h
  | int k t => exact kia_one (K := []) kitx_int nil_in trivial (by kernel_rfl) (by intro q; cases q) h
  | list a p => exact kia_one (K := []) kitx_list nil_in p (by kernel_rfl) (by intro q; cases q) h
  | tuple a p => exact kia_one (K := []) kitx_tuple nil_in p (by kernel_rfl) (by intro q; cases q) h
/-- the objects of the ledger say that v is neither -/
def OtherN (news : List (Addr × Obj)) (v : Value) : Prop := ∀ h₀ L h, News h₀ L h news → Other h v
theorem OtherN.at {h₀ : Heap} {L : Addr} {h : Heap} {news news' : List (Addr × Obj)} (O : OtherN news v) (N : News h₀ L h news') (hs : ∀ p ∈ news, p ∈ news') : Other h v := O h₀ L h fun p hp => N p (hs p hp)
theorem otherN_of {v : Value} {ex : List (Addr × Obj)} (S : SecP 2 v ex) : OtherN ex v := by
  intro h₀ L h N
  cases S with
  | none => exact .none
  | int k t => exact .int k t
  | list a vs n => exact .list a ⟨_, (N _ (List.mem_cons_self ..)).1, rfl⟩
  | tuple a vs n => exact .tuple a ⟨_, (N _ (List.mem_cons_self ..)).1, rfl⟩
theorem in_yes {b : Array UInt8} {u t : Tok} {ks : List Int} {h₀ : Heap} {L : Addr} {m : PySem.Str → Option Value} {news : List (Addr × Obj)} (hh : A.handled = none) (F : Fr h₀ L s.heap m) (N : News h₀ L s.heap news) (hb : KBw.bInts b = ks) (h0 : (0 : Int) ∈ ks)
    (h : ∀ h' tk, Fr h₀ L h' m → News h₀ L h' news → Q (.bool true) { s with heap := h', toks := tk }) : wpAny (model prog w) A (compareOp .In (.bytes #[0] u) (.bytes b t)) Q E s := by
  refine in_bytes hh F N fun h' tk F' N' => ?_
  rw [find_nought, hb, decide_eq_true h0]
  exact h h' tk F' N'
theorem in_no {b : Array UInt8} {u t : Tok} {ks : List Int} {h₀ : Heap} {L : Addr} {m : PySem.Str → Option Value} {news : List (Addr × Obj)} (hh : A.handled = none) (F : Fr h₀ L s.heap m) (N : News h₀ L s.heap news) (hb : KBw.bInts b = ks) (h0 : (0 : Int) ∉ ks)
    (h : ∀ h' tk, Fr h₀ L h' m → News h₀ L h' news → Q (.bool false) { s with heap := h', toks := tk }) : wpAny (model prog w) A (compareOp .In (.bytes #[0] u) (.bytes b t)) Q E s := by
  refine in_bytes hh F N fun h' tk F' N' => ?_
  rw [find_nought, hb, decide_eq_false h0]
  exact h h' tk F' N'
end
end Mine
end -- Oi
section -- Ch
open PySem PySem.W PySem.W.X PyProof.Rows PySem.Calls PySem.Spec
namespace Mine
/-- an exception that the step has made; its record may be longer than the plain one -/
structure NewExcL (h h' : Heap) (e : Addr) (cls : String) : Prop where
  keeps : ∀ b o, h.get? b = some o → h'.get? b = some o
  new : h.get? e = none
  there : ∃ ob vs t, h'.get? e = some ob ∧ ob.cls = .type cls ∧ ob.data = .fields vs ∧ vs[0]? = some t ∧ vs[1]? = some .none
theorem NewExcL.of {h h' : Heap} {e : Addr} {cls : String} (x : Heap.NewExc h h' e cls) : NewExcL h h' e cls :=
  ⟨x.keeps, x.new, let ⟨ob, t, h1, h2, h3⟩ := x.there; ⟨ob, _, t, h1, h2, h3, rfl, rfl⟩⟩
section
variable {M : Model} {A : Around} {E : Value → Shared → Prop} {s s' : Shared} {base g g₂ h : Heap} {outer : List Env} {env : Env} {L a e : Addr} {m : Str → Option Value} {name : Str} {scope : Scope} {cd : Value} {Q : Unit → Shared → Prop} {news : List (Addr × Obj)}
theorem looks_first {oe : Obj} {vs : Array Value} {a0 : Value} (hfr : A.frames = some (env :: outer)) (hl : s.heap.FunFrames base (env :: outer)) (hf : env.frame = some L)
    (he : s.heap.get? e = some oe) (hkb : base.StaysIn s.heap) (hen : base.get? e = none) (hd : oe.data = .fields vs) (h1 : vs[1]? = some .none) (h0 : vs[0]? = some a0)
    (hQ : ∀ h', Heap.HeldW base (env :: outer) e oe.cls a0 L h' → s.heap.UpToSlots h' → Q () { s with heap := h' }) : wpAny M A (noteFrame (.ref e) env) Q E s := by
  unfold noteFrame
  simp only [hf]
  refine wpAny_bind (wpAny_field he hd h1 ?_)
  rw [if_neg (by decide)]
  refine wpAny_entryW hfr hl hf he hkb hen hd (Array.getElem?_eq_some_iff.mp h1).1 h0 fun h' hN => ?_
  obtain ⟨k1, k2, k3, k4⟩ := hN
  exact hQ h' ⟨k1, hen, k2, k3⟩ k4
theorem leave_newL {cls : String} (K : Below A base outer g) (hx : NewExcL h s'.heap e cls) (F : Fr g L h m) (N : News g L h news)
    (hQ : ∀ h', RaisedSN base g outer e (.type cls) news h' → RaisedN base outer e (.type cls) news h' → g.UpToSlots h' → Q () { s' with heap := h' }) (hk : scope.kind = .function := by rfl) :
    wpAny M (A.deeper (envOf name scope L a cd)) («leaving» (envOf name scope L a cd) (.ref e)) Q E s' := by
  have K' := K.push (name := name) (a := a) (cd := cd) F hk
  have hin : ∀ env ∈ (envOf name scope L a cd :: outer), ∀ b, env.frame = some b → b ∈ (envOf name scope L a cd :: outer).filterMap (·.frame) := fun env he b hb => List.mem_filterMap.mpr ⟨env, he, hb⟩
  have st : base.StaysIn (hideAll h ((envOf name scope L a cd :: outer).filterMap (·.frame))) := fun b o q => hideAll_get _ (K'.stays b o q) fun hm => by
    rw [(K'.frames.mem hm).1] at q; cases q
  have sg : ∀ b o, g.get? b = some o → b ∉ outer.filterMap (·.frame) → (hideAll h ((envOf name scope L a cd :: outer).filterMap (·.frame))).get? b = some o := fun b o q nm => hideAll_get _ (F.keep b o q) fun hm => by
    rcases kts_mem hm with z | z
    · rw [z, kts_self F] at q
      cases q
    · exact nm z
  have hl : ∀ q ∈ news, (hideAll h ((envOf name scope L a cd :: outer).filterMap (·.frame))).get? q.1 = some q.2 ∧ g.get? q.1 = none ∧ base.get? q.1 = none := fun q hq => by
    refine ⟨hideAll_get _ (N q hq).1 fun hm => ?_, (N q hq).2.2, fresh_of_stays K.stays (N q hq).2.2⟩
    obtain ⟨env, he, hf⟩ := List.mem_filterMap.mp hm
    rcases List.mem_cons.mp he with rfl | he
    · exact (N q hq).2.1 (Option.some.inj hf).symm
    · obtain ⟨o, ho, _⟩ := (K.frames.mem (List.mem_filterMap.mpr ⟨env, he, hf⟩)).2
      rw [(N q hq).2.2] at ho; cases ho
  obtain ⟨ob, vs, tp, he, hcls, hd, h0, h1⟩ := hx.there
  have hen : (hideAll h ((envOf name scope L a cd :: outer).filterMap (·.frame))).get? e = none := by
    cases q : (hideAll h ((envOf name scope L a cd :: outer).filterMap (·.frame))).get? e with
    | none => rfl
    | some o => have := of_hideAll _ q; rw [hx.new] at this; cases this
  refine wpAny_leaving_firstW (a0 := tp) K'.stack ((funFrames_hide K'.frames hin).of_keeps fun b o hb _ => ⟨o, hx.keeps b o hb, rfl⟩) rfl he (fun b o hb => hx.keeps b o (of_hideAll _ hb)) hen hd h1 h0 fun h' hL => ?_
  obtain ⟨k1, ⟨_, _, k2⟩, k3, k4⟩ := hL
  have R : RaisedSN base g outer e (.type cls) news h' := ⟨_, tp, st, sg, hl, k1, hen, k2, by rw [← hcls]; exact k3⟩
  exact hQ h' R R.toN (((Heap.UpToSlots.of_keeps F.keep).trans (Heap.UpToSlots.of_keeps hx.keeps)).trans k4)
end
section
variable {prog : Program} {w : World} {A₀ : Around} {E : Value → Shared → Prop} {s' : Shared} {base g g₀ h : Heap} {outer : List Env} {L a e : Addr} {m : Str → Option Value} {name : Str} {scope : Scope} {cd : Value}
  {b₀ : Stmt} {suite : List Stmt} {pos np : Pos} {rest : List ExceptHandler} {Q : Flow → Shared → Prop} {news : List (Addr × Obj)} {KF : Frag}
  {p : Program} {loose : List Str} {mean : ExcName → Option Value} {mg mb : Str → Option Value} {x : Str} {X T' : String}
/-- an exception of this very frame, caught by its own try -/
theorem caught_here (hnew : NewExcL h s'.heap e X) (F : Fr g L h m) (N : News g L h news) (K : Below A₀ base outer g) (XB : KF.In base) (TB : Top p loose mean mg mb base)
    (D : KtsDicts (outer.filterMap (·.frame)) g) (T0 : KtsTurn (outer.filterMap (·.frame)) g₀ g)
    (ex : nsIn KF mainGlobals x = some none) (hv : bootBuiltins x = some (.type T')) (hn' : x ≠ "__name__")
    (hexc : isSubtype (.type T') (.type "BaseException") = pure true) (hnt : isSubtype (.type ((Manifest.find? T').elim "type" fun y => y.metatype)) (.type "tuple") = pure false) (hsub : isSubtype (.type X) (.type T') = pure true)
    (k : ∀ h' g', KtsTurn (outer.filterMap (·.frame)) g₀ g' → Fr g' L h' m → News g' L h' news → Below A₀ base outer g' → KF.In g' → Top p loose mean mg mb g' → KtsDicts (outer.filterMap (·.frame)) g' →
      wpAny (model prog w) ((A₀.deeper (envOf name scope L a cd)).mark (some (.ref e))) (execs (b₀ :: suite) (envOf name scope L a cd)) Q E { s' with heap := h' })
    (hk : scope.kind = .function := by rfl) (hx : (envOf name scope L a cd).kindOf x = some .globalImplicit := by rfl) (hd : (x == ("__debug__" : Str)) = false := by decide)
    (hE : PassesOwnAt (model prog w) ((A₀.deeper (envOf name scope L a cd)).mark (some (.ref e))) (A₀.deeper (envOf name scope L a cd)) (envOf name scope L a cd) E := by passes_own) :
    wpAny (model prog w) (A₀.deeper (envOf name scope L a cd)) (noteFrame (.ref e) (envOf name scope L a cd))
      (fun _ s₂ => wpAny (model prog w) (A₀.deeper (envOf name scope L a cd)) (setFlight (.ref e) none) (fun _ s₃ =>
        wpAny (model prog w) (A₀.deeper (envOf name scope L a cd)) (handleBy (.ref e) (envOf name scope L a cd) (.ExceptHandler (some (.Name x np)) none (b₀ :: suite) pos :: rest)) Q E s₃) E s₂) E s' := by
  have K' := K.push (name := name) (a := a) (cd := cd) F hk
  have hin : ∀ env ∈ (envOf name scope L a cd :: outer), ∀ b, env.frame = some b → b ∈ (envOf name scope L a cd :: outer).filterMap (·.frame) := fun env he b hb => List.mem_filterMap.mpr ⟨env, he, hb⟩
  have hBG : ∀ b o, h.get? b = some o → b ∉ (envOf name scope L a cd :: outer).filterMap (·.frame) → (hideAll h ((envOf name scope L a cd :: outer).filterMap (·.frame))).get? b = some o := fun b o q nm => hideAll_get _ q nm
  have hl : ∀ q ∈ news, (hideAll h ((envOf name scope L a cd :: outer).filterMap (·.frame))).get? q.1 = some q.2 ∧ g.get? q.1 = none := fun q hq => by
    refine ⟨hideAll_get _ (N q hq).1 fun hm => ?_, (N q hq).2.2⟩
    obtain ⟨env, he, hf⟩ := List.mem_filterMap.mp hm
    rcases List.mem_cons.mp he with rfl | he
    · exact (N q hq).2.1 (Option.some.inj hf).symm
    · obtain ⟨o, ho, _⟩ := (K.frames.mem (List.mem_filterMap.mpr ⟨env, he, hf⟩)).2
      rw [(N q hq).2.2] at ho; cases ho
  have hL : (hideAll h ((envOf name scope L a cd :: outer).filterMap (·.frame))).get? L = none := by
    have hm : L ∈ (envOf name scope L a cd :: outer).filterMap (·.frame) := List.mem_filterMap.mpr ⟨_, List.mem_cons_self .., rfl⟩
    exact hideAll_none _ hm
  obtain ⟨ob, vs, tp, he, hcls, hdd, h0, h1⟩ := hnew.there
  have hen : (hideAll h ((envOf name scope L a cd :: outer).filterMap (·.frame))).get? e = none := by
    cases q : (hideAll h ((envOf name scope L a cd :: outer).filterMap (·.frame))).get? e with
    | none => rfl
    | some o => have := of_hideAll _ q; rw [hnew.new] at this; cases this
  have hsm : h.UpToSlots s'.heap := Heap.UpToSlots.of_keeps hnew.keeps
  refine looks_first (a0 := tp) K'.stack ((funFrames_hide K'.frames hin).of_keeps fun b o hb _ => ⟨o, hnew.keeps b o hb, rfl⟩) rfl he (fun b o hb => hnew.keeps b o (of_hideAll _ hb)) hen hdd h1 h0 fun h₄ hheld₄ hsm₄ => ?_
  rw [hcls] at hheld₄
  refine wpAny_landsW hheld₄ fun h₅ hheld hsm₅' => ?_
  have hsm₅ := hsm₄.trans hsm₅'
  obtain ⟨g₅, T₅, F₅, K₅⟩ := kts_ground K F hBG hheld.1 (hsm.trans hsm₅)
  have X₅ : KF.In g₅ := XB.keeps K₅.stays
  have P₅ : TopRead p loose mg mb g₅ := topRead_of (TB.keeps K₅.stays)
  obtain ⟨ob, hob, hobc⟩ := hheld.there
  refine wpAny_handleBy_builtin (X := X) (T := T') (b := true) hexc hnt hsub (name_B F₅ X₅ P₅ ex hv hn' ⟨rfl, ⟨ob, hob, hobc⟩, ?_⟩ hk hx hd)
  refine lands_againW hheld fun h₆ hfl₆ hsm₆ => ?_
  obtain ⟨g₆, T₆, F₆, K₆⟩ := kts_ground K F hBG hfl₆.1 ((hsm.trans hsm₅).trans hsm₆)
  have Nl : News g₆ L h₆ news := fun q hq => ⟨hfl₆.1 _ _ (hl q hq).1, (fun z => by have := (hl q hq).1; rw [z, hL] at this; cases this), T₆.none_ _ (hl q hq).2⟩
  have X₆ : KF.In g₆ := XB.keeps K₆.stays
  have P₆ : Top p loose mean mg mb g₆ := TB.keeps K₆.stays
  have D₆ : KtsDicts (outer.filterMap (·.frame)) g₆ := D.turn T₆
  exact wpAny_passesOwnAt hE (k h₆ g₆ (T0.trans T₆) F₆ Nl K₆ X₆ P₆ D₆)
end
end Mine
namespace Mine
/-- the record of e has no context yet -/
def Ctx2 (h : Heap) (e : Addr) : Prop := ∃ o vs, h.get? e = some o ∧ o.data = .fields vs ∧ vs[2]? = some .none
section
variable {M : Model} {A : Around} {E : Value → Shared → Prop} {s : Shared} {base : Heap} {outer l : List Env} {env : Env} {L e : Addr} {Q : Unit → Shared → Prop} {cls a0 fl : Value}
theorem looks_firstC {oe : Obj} {vs : Array Value} (hfr : A.frames = some (env :: outer)) (hl : s.heap.FunFrames base (env :: outer)) (hf : env.frame = some L)
    (he : s.heap.get? e = some oe) (hkb : base.StaysIn s.heap) (hen : base.get? e = none) (hd : oe.data = .fields vs) (h1 : vs[1]? = some .none) (h0 : vs[0]? = some a0) (h2 : vs[2]? = some .none)
    (hQ : ∀ h', Heap.HeldW base (env :: outer) e oe.cls a0 L h' → s.heap.UpToSlots h' → Ctx2 h' e → Q () { s with heap := h' }) : wpAny M A (noteFrame (.ref e) env) Q E s := by
  have hsz : 1 < vs.size := (Array.getElem?_eq_some_iff.mp h1).1
  have hene : e ∉ (env :: outer).filterMap (·.frame) := fun hm => by
    obtain ⟨_, o, ho, hnf⟩ := hl.mem hm
    rw [he] at ho; injection ho with ho; subst ho; exact hnf vs hd
  unfold noteFrame
  simp only [hf]
  refine wpAny_bind (wpAny_field he hd h1 ?_)
  rw [if_neg (by decide)]
  refine wpAny_bind (wpAny_frameOf_fun hfr hl hf fun h₁ hs₁ => ?_)
  refine wpAny_bind (wpAny_entryPlaceOf fun pl hpl => ?_)
  unfold EntryCells.newEntry newFields
  refine wpAny_bind (wpAny_newObj_type ?_ (hpl.sizeOk5 _ _ _ _ _))
  have he₁ : h₁.get? e = some oe := (hs₁.2.1 e hene).trans he
  have kb₁ : base.StaysIn h₁ := fun b o hbo => (hs₁.2.1 b fun hm => by rw [(hl.mem hm).1] at hbo; cases hbo).trans (hkb b o hbo)
  generalize htb : ({ cls := .type "traceback", dict := none, data := .fields _ } : Obj) = tb
  have he₂ := Heap.get?_push_of_some (h := h₁) tb he₁
  have hTe : h₁.objs.size ≠ e := Nat.ne_of_gt (Heap.lt_size he₁)
  have hd₃ := Obj.data_mapFields hd (·.setIfInBounds 1 (Value.ref h₁.objs.size))
  have he₃ := Heap.get?_update_self (Obj.mapFields (·.setIfInBounds 1 (Value.ref h₁.objs.size))) he₂ (Obj.isFreed_of_fields hd₃)
  have hT₃ := (Heap.get?_update_other (h₁.push tb) (Obj.mapFields (·.setIfInBounds 1 (Value.ref h₁.objs.size))) (Ne.symm hTe)).trans (Heap.get?_push_size h₁ (by rw [← htb]; rfl))
  have keep : ∀ b o, b ≠ e → h₁.get? b = some o → ((h₁.push tb).update e (Obj.mapFields (·.setIfInBounds 1 (Value.ref h₁.objs.size)))).get? b = some o := fun b o hbe hb => by
    rw [Heap.get?_update_other _ _ (Ne.symm hbe)]
    exact Heap.get?_push_of_some _ hb
  have noRec : ∀ b o, s.heap.get? b = some o → (∀ vs, o.data ≠ .fields vs) → b ≠ e := fun b o hb hnf q => by
    rw [q, he] at hb; injection hb with hb; subst hb; exact hnf vs hd
  refine wpAny_setField he₂ hd hsz (hQ _ ⟨fun b o hbo => keep b o (fun q => by rw [q, hen] at hbo; cases hbo) (kb₁ b o hbo), hen, hl.of_keeps fun b o hb hnf => ?_, ?_⟩ (fun b o hb hnf => ?_) ?_)
  · obtain ⟨sl, hs⟩ := hs₁.2.2 b o hb
    exact ⟨_, keep b _ (noRec b o hb hnf) hs, rfl⟩
  · refine ⟨_, _, h₁.objs.size, _, _, he₃, ⟨Obj.cls_mapFields _ _, by rw [Array.getElem?_setIfInBounds_ne (by decide)]; exact h0⟩, hd₃, by simp [hsz], kb₁.fresh, hTe, hT₃, by rw [← htb], ?_⟩
    first | (simp; done) | (rcases hpl with rfl | ⟨_, _, _, _, _, _, _, rfl⟩ <;> simp)
  · obtain ⟨sl, hs⟩ := hs₁.2.2 b o hb
    exact ⟨sl, keep b _ (noRec b o hb hnf) hs⟩
  · exact ⟨_, _, he₃, hd₃, by rw [Array.getElem?_setIfInBounds_ne (by decide)]; exact h2⟩
theorem flightC (f1 : base.StaysIn s.heap) (f2 : base.get? e = none) (f3 : s.heap.FunFrames base l) (f4 : s.heap.TracedAtW base e cls a0 fl) (hc : Ctx2 s.heap e)
    (hQ : ∀ h', Heap.FlyingW base l e cls a0 h' → s.heap.UpToSlots h' → Ctx2 h' e → Q () { s with heap := h' }) : wpAny M A (setFlight (.ref e) none) Q E s := by
  obtain ⟨oe, vs, T, oT, ts, he, hcls, hd, h1, hnT, hTe, hT, hdT, h3⟩ := f4
  have hsz3 : 3 < ts.size := (Array.getElem?_eq_some_iff.mp h3).1
  have other : ∀ b, b ≠ T → (s.heap.update T (Obj.mapFields (·.setIfInBounds 3 ((none : Option Addr).elim Value.none fun f => rawInt f)))).get? b = s.heap.get? b :=
    fun b hb => Heap.get?_update_other _ _ (Ne.symm hb)
  have noRec : ∀ b o, s.heap.get? b = some o → (∀ vs, o.data ≠ .fields vs) → b ≠ T := fun b o hb hnf q => by
    rw [q, hT] at hb; injection hb with hb; subst hb; exact hnf ts hdT
  have heT := (other e (Ne.symm hTe)).trans he
  unfold setFlight
  refine wpAny_bind (wpAny_field he hd h1 ?_)
  rw [if_pos (show (Value.ref T != Value.none) = true from by simp)]
  refine wpAny_setField hT hdT hsz3 (hQ _ ⟨fun b o hbo => (other b fun q => by rw [q, hnT] at hbo; cases hbo).trans (f1 b o hbo), f2,
    f3.of_keeps fun b o hb hnf => ⟨o, (other b (noRec b o hb hnf)).trans hb, rfl⟩, ?_⟩ (fun b o hb hnf => ⟨o.slots, (other b (noRec b o hb hnf)).trans hb⟩) ?_)
  · exact ⟨oe, vs, T, _, _, heT, hcls, hd, h1, hnT, hTe, Heap.get?_update_self _ hT (Obj.isFreed_of_fields (Obj.data_mapFields hdT _)), Obj.data_mapFields hdT _, by simp [hsz3]⟩
  · obtain ⟨o, ws, ho, hw, h2⟩ := hc
    exact ⟨o, ws, (other e (Ne.symm hTe)).trans ho, hw, h2⟩
end
/-- a new exception whose record has no context -/
structure NewExcC (h h' : Heap) (e : Addr) (cls : String) : Prop where
  keeps : ∀ b o, h.get? b = some o → h'.get? b = some o
  new : h.get? e = none
  there : ∃ ob vs t, h'.get? e = some ob ∧ ob.cls = .type cls ∧ ob.data = .fields vs ∧ vs[0]? = some t ∧ vs[1]? = some .none ∧ vs[2]? = some .none
theorem NewExcC.of {h h' : Heap} {e : Addr} {cls : String} (x : Heap.NewExc h h' e cls) : NewExcC h h' e cls :=
  ⟨x.keeps, x.new, let ⟨ob, t, h1, h2, h3⟩ := x.there; ⟨ob, _, t, h1, h2, h3, rfl, rfl, rfl⟩⟩
section
variable {prog : Program} {w : World} {A₀ : Around} {E : Value → Shared → Prop} {s' : Shared} {base g g₀ h : Heap} {outer : List Env} {L a e : Addr} {m : Str → Option Value} {name : Str} {scope : Scope} {cd : Value}
  {b₀ : Stmt} {suite : List Stmt} {pos np : Pos} {rest : List ExceptHandler} {Q : Flow → Shared → Prop} {news : List (Addr × Obj)} {KF : Frag}
  {p : Program} {loose : List Str} {mean : ExcName → Option Value} {mg mb : Str → Option Value} {x : Str} {X T' : String}
theorem caught_hereC (hnew : NewExcC h s'.heap e X) (F : Fr g L h m) (N : News g L h news) (K : Below A₀ base outer g) (XB : KF.In base) (TB : Top p loose mean mg mb base)
    (D : KtsDicts (outer.filterMap (·.frame)) g) (T0 : KtsTurn (outer.filterMap (·.frame)) g₀ g)
    (ex : nsIn KF mainGlobals x = some none) (hv : bootBuiltins x = some (.type T')) (hn' : x ≠ "__name__")
    (hexc : isSubtype (.type T') (.type "BaseException") = pure true) (hnt : isSubtype (.type ((Manifest.find? T').elim "type" fun y => y.metatype)) (.type "tuple") = pure false) (hsub : isSubtype (.type X) (.type T') = pure true)
    (k : ∀ h' g', KtsTurn (outer.filterMap (·.frame)) g₀ g' → Fr g' L h' m → News g' L h' news → Below A₀ base outer g' → KF.In g' → Top p loose mean mg mb g' → KtsDicts (outer.filterMap (·.frame)) g' → Ctx2 h' e →
      wpAny (model prog w) ((A₀.deeper (envOf name scope L a cd)).mark (some (.ref e))) (execs (b₀ :: suite) (envOf name scope L a cd)) Q E { s' with heap := h' })
    (hk : scope.kind = .function := by rfl) (hx : (envOf name scope L a cd).kindOf x = some .globalImplicit := by rfl) (hd : (x == ("__debug__" : Str)) = false := by decide)
    (hE : PassesOwnAt (model prog w) ((A₀.deeper (envOf name scope L a cd)).mark (some (.ref e))) (A₀.deeper (envOf name scope L a cd)) (envOf name scope L a cd) E := by passes_own) :
    wpAny (model prog w) (A₀.deeper (envOf name scope L a cd)) (noteFrame (.ref e) (envOf name scope L a cd))
      (fun _ s₂ => wpAny (model prog w) (A₀.deeper (envOf name scope L a cd)) (setFlight (.ref e) none) (fun _ s₃ =>
        wpAny (model prog w) (A₀.deeper (envOf name scope L a cd)) (handleBy (.ref e) (envOf name scope L a cd) (.ExceptHandler (some (.Name x np)) none (b₀ :: suite) pos :: rest)) Q E s₃) E s₂) E s' := by
  have K' := K.push (name := name) (a := a) (cd := cd) F hk
  have hin : ∀ env ∈ (envOf name scope L a cd :: outer), ∀ b, env.frame = some b → b ∈ (envOf name scope L a cd :: outer).filterMap (·.frame) := fun env he b hb => List.mem_filterMap.mpr ⟨env, he, hb⟩
  have hBG : ∀ b o, h.get? b = some o → b ∉ (envOf name scope L a cd :: outer).filterMap (·.frame) → (hideAll h ((envOf name scope L a cd :: outer).filterMap (·.frame))).get? b = some o := fun b o q nm => hideAll_get _ q nm
  have hl : ∀ q ∈ news, (hideAll h ((envOf name scope L a cd :: outer).filterMap (·.frame))).get? q.1 = some q.2 ∧ g.get? q.1 = none := fun q hq => by
    refine ⟨hideAll_get _ (N q hq).1 fun hm => ?_, (N q hq).2.2⟩
    obtain ⟨env, he, hf⟩ := List.mem_filterMap.mp hm
    rcases List.mem_cons.mp he with rfl | he
    · exact (N q hq).2.1 (Option.some.inj hf).symm
    · obtain ⟨o, ho, _⟩ := (K.frames.mem (List.mem_filterMap.mpr ⟨env, he, hf⟩)).2
      rw [(N q hq).2.2] at ho; cases ho
  have hL : (hideAll h ((envOf name scope L a cd :: outer).filterMap (·.frame))).get? L = none := by
    have hm : L ∈ (envOf name scope L a cd :: outer).filterMap (·.frame) := List.mem_filterMap.mpr ⟨_, List.mem_cons_self .., rfl⟩
    exact hideAll_none _ hm
  obtain ⟨ob, vs, tp, he, hcls, hdd, h0, h1, h2⟩ := hnew.there
  have hen : (hideAll h ((envOf name scope L a cd :: outer).filterMap (·.frame))).get? e = none := by
    cases q : (hideAll h ((envOf name scope L a cd :: outer).filterMap (·.frame))).get? e with
    | none => rfl
    | some o => have := of_hideAll _ q; rw [hnew.new] at this; cases this
  have hsm : h.UpToSlots s'.heap := Heap.UpToSlots.of_keeps hnew.keeps
  refine looks_firstC (a0 := tp) K'.stack ((funFrames_hide K'.frames hin).of_keeps fun b o hb _ => ⟨o, hnew.keeps b o hb, rfl⟩) rfl he (fun b o hb => hnew.keeps b o (of_hideAll _ hb)) hen hdd h1 h0 h2 fun h₄ hheld₄ hsm₄ c₄ => ?_
  rw [hcls] at hheld₄
  obtain ⟨a1, a2, a3, a4⟩ := hheld₄
  refine flightC a1 a2 a3 a4 c₄ fun h₅ hheld hsm₅' c₅ => ?_
  have hsm₅ := hsm₄.trans hsm₅'
  obtain ⟨g₅, T₅, F₅, K₅⟩ := kts_ground K F hBG hheld.1 (hsm.trans hsm₅)
  have X₅ : KF.In g₅ := XB.keeps K₅.stays
  have P₅ : TopRead p loose mg mb g₅ := topRead_of (TB.keeps K₅.stays)
  obtain ⟨ob, hob, hobc⟩ := hheld.there
  refine wpAny_handleBy_builtin (X := X) (T := T') (b := true) hexc hnt hsub (name_B F₅ X₅ P₅ ex hv hn' ⟨rfl, ⟨ob, hob, hobc⟩, ?_⟩ hk hx hd)
  obtain ⟨b1, b2, b3, b4⟩ := hheld
  refine flightC b1 b2 b3 b4.at c₅ fun h₆ hfl₆ hsm₆ c₆ => ?_
  obtain ⟨g₆, T₆, F₆, K₆⟩ := kts_ground K F hBG hfl₆.1 ((hsm.trans hsm₅).trans hsm₆)
  have Nl : News g₆ L h₆ news := fun q hq => ⟨hfl₆.1 _ _ (hl q hq).1, (fun z => by have := (hl q hq).1; rw [z, hL] at this; cases this), T₆.none_ _ (hl q hq).2⟩
  have X₆ : KF.In g₆ := XB.keeps K₆.stays
  have P₆ : Top p loose mean mg mb g₆ := TB.keeps K₆.stays
  have D₆ : KtsDicts (outer.filterMap (·.frame)) g₆ := D.turn T₆
  exact wpAny_passesOwnAt hE (k h₆ g₆ (T0.trans T₆) F₆ Nl K₆ X₆ P₆ D₆ c₆)
end
section
variable {prog : Program} {w : World} {A : Around} {E : Value → Shared → Prop} {s : Shared} {env : Env}
theorem plain_unchain : plainId "proto.unchain" = true := by decide +kernel
theorem entry_unchain : entryFor table "proto.unchain" = some Builtin.«proto.unchain» := entryFor_of_tree (by kernel_rfl)
theorem raise_new {α : Type} {Q : α → Shared → Prop} {e0 e : Addr} {o : Obj} {vs : Array Value} (hh : A.handled = some (.ref e0)) (hne : e0 ≠ e) (hc : Ctx2 s.heap e0) (he : s.heap.get? e = some o) (hd : o.data = .fields vs) (h2 : 2 < vs.size)
    (h : E (.ref e) { s with heap := s.heap.update e (Obj.mapFields (·.setIfInBounds 2 (Value.ref e0))) }) : wpAny (model prog w) A (raiseNew (α := α) (.ref e)) Q E s := by
  obtain ⟨o0, ws, ho, hw, hx⟩ := hc
  unfold raiseNew
  refine wpAny_bind (wpAny_handled ?_)
  rw [hh]
  dsimp only
  rw [if_pos (by simp [hne])]
  refine wpAny_bind (wpAny_holding (wpAny_runValue (codeAny_builtin entry_unchain ?_)))
  show wpAny _ _ (field (.ref e0) 2 >>= fun c => _) _ _ s
  refine wpAny_bind (wpAny_field ho hw hx ?_)
  rw [if_pos (by rfl)]
  refine wpAny_pure ?_
  show wpAny (model prog w) A (setField (.ref e) 2 (Value.ref e0) >>= fun _ => throw (Value.ref e)) Q E s
  refine wpAny_bind (wpAny_setField he hd h2 ?_)
  exact wpAny_throw h
theorem raiseStmt_in {cls : String} (F : ExcRaiseFacts cls) {x : Sem Value} {Q : Flow → Shared → Prop} {e0 : Addr} (hh : A.handled = some (.ref e0))
    (h : wpAny (model prog w) A x (fun v s₁ => ∃ e t, v = .ref e ∧ e0 ≠ e ∧ Ctx2 s₁.heap e0 ∧ s₁.heap.get? e = some { cls := .type cls, data := .fields #[.ref t, .none, .none, .none, .bool false, .none] } ∧
      E (.ref e) { s₁ with heap := s₁.heap.update e (Obj.mapFields (·.setIfInBounds 2 (Value.ref e0))) }) E s) :
    wpAny (model prog w) A (raiseStmt env (some x) none) Q E s := by
  unfold raiseStmt
  refine wpAny_bind (wpAny_mono h (fun v s₁ h₁ => ?_) fun _ _ x => x)
  obtain ⟨e, t, rfl, hne, hc, he, hE⟩ := h₁
  obtain ⟨hp, g, d, tk, os⟩ := s₁
  have hsub := F.isExc
  have hmeta := F.plainMeta
  repeat (first | refine wpAny_loadPart he ?_ | wp_step)
  exact raise_new hh hne hc he rfl (by show 2 < 6; decide) hE
/-- 'raise X(..)' in the suite of an except clause: the exception at hand becomes its context -/
theorem Raise_in {cls newId initId : String} (F : ExcCallFacts cls newId initId) (G : ExcRaiseFacts cls) {x : Str} {np cpos pos : Pos} {args : List Expr} {Q : Flow → Shared → Prop} {e0 : Addr}
    (hh : A.handled = some (.ref e0)) (hplain : (backTo cpos (starEach args env)).any (·.1) = false)
    (h : wpAny (model prog w) A (eval (.Name x np) env) (fun f s₁ => f = .type cls ∧ wpAny (model prog w) A (evalArgs (.type cls) true (backTo cpos (starEach args env)) [])
      (fun a s₂ => a.kw = [] ∧ a.pos.length ≤ sizeLine ∧ Ctx2 s₂.heap e0 ∧ ∀ h' e, NewExcL s₂.heap h' e cls → E (.ref e) { s₂ with heap := h' }) E s₁) E s) :
    wpAny (model prog w) A (exec (.Raise (some (.Call (.Name x np) args [] cpos)) none pos) env) Q E s := by
  rw [arm_exec_Raise]
  simp only [evalOpt, Option.map]
  refine wpAny_bind (wpAny_standAt (raiseStmt_in G hh (wpAny_bind (wpAny_mono (wpAny_Call_ofName (wpAny_mono h (fun f s₁ h₁ => ?_) fun _ _ x => x)) (fun v s₃ h₃ => wpAny_bind (wpAny_standAt (wpAny_pure h₃))) fun _ _ x => x))))
  obtain ⟨rfl, h₁⟩ := h₁
  refine callWith_excType hplain (wpAny_mono h₁ (fun a s₂ h₂ => ?_) fun _ _ x => x)
  obtain ⟨apos, akw⟩ := a
  obtain ⟨hkw, hlen, hc, h₂⟩ := h₂
  obtain rfl : akw = [] := hkw
  obtain ⟨hp, g, d, tk, os⟩ := s₂
  refine wpAny_call_exc F (hrest := hlen) fun h' e hm => ?_
  obtain ⟨t, ht, _, _⟩ := hm.there
  obtain ⟨o0, ws, ho0, hw0, hx0⟩ := hc
  have hne : e0 ≠ e := fun q => by
    have := hm.new
    rw [← q, ho0] at this; cases this
  refine ⟨e, t, rfl, hne, ⟨o0, ws, hm.keeps _ _ ho0, hw0, hx0⟩, ht, h₂ _ e ⟨fun b o hb => ?_, hm.new, ?_⟩⟩
  · rw [Heap.get?_update_other _ _ (fun q => by rw [← q, hm.new] at hb; cases hb)]
    exact hm.keeps _ _ hb
  · have hd : (({ cls := .type cls, data := .fields #[.ref t, .none, .none, .none, .bool false, .none] } : Obj).mapFields (·.setIfInBounds 2 (Value.ref e0))).data = .fields (#[.ref t, .none, .none, .none, .bool false, .none].setIfInBounds 2 (Value.ref e0)) := rfl
    exact ⟨_, _, .ref t, Heap.get?_update_self _ ht (Obj.isFreed_of_fields hd), rfl, hd, rfl, rfl⟩
theorem Raise_in1 {cls newId initId : String} (F : ExcCallFacts cls newId initId) (G : ExcRaiseFacts cls) {x : Str} {np cpos pos : Pos} {a : Expr} {rest : List Expr} {Q : Flow → Shared → Prop} {e0 : Addr}
    (hh : A.handled = some (.ref e0))
    (h : wpAny (model prog w) A (eval (.Name x np) env) (fun f s₁ => f = .type cls ∧ wpAny (model prog w) A (spliced (backTo cpos (starEach (a :: rest) env)))
      (fun vs s₂ => Ctx2 s₂.heap e0 ∧ vs.length ≤ sizeLine ∧ ∀ h' e, NewExcL s₂.heap h' e cls → E (.ref e) { s₂ with heap := h' }) E s₁) E s)
    (he : starEach (a :: rest) env = (false, eval a env) :: starEach rest env := by rfl) (hplain : (backTo cpos (starEach rest env)).any (·.1) = false := by rfl) :
    wpAny (model prog w) A (exec (.Raise (some (.Call (.Name x np) (a :: rest) [] cpos)) none pos) env) Q E s := by
  refine Raise_in F G hh (by rw [he]; show (false || (backTo cpos (starEach rest env)).any (·.1)) = false; rw [hplain]; rfl) (wpAny_mono h (fun f s₁ h₁ => ⟨h₁.1, ?_⟩) fun _ _ x => x)
  have h2 := h₁.2
  rw [he] at h2 ⊢
  refine evalArgs_plain (wpAny_mono h2 (fun vs s₂ h₂ => ?_) fun _ _ x => x)
  exact ⟨rfl, h₂.2.1, h₂.1, h₂.2.2⟩
end
end Mine
namespace Mine
/-- the ground of a frame follows the ground of the frame that it called -/
theorem turn_fr {A₀ : Around} {base h₀ g g' : Heap} {outer : List Env} {L a : Addr} {m : Str → Option Value} {name : Str} {scope : Scope} {cd : Value}
    (K : Below A₀ base outer h₀) (F : Fr h₀ L g m) (T : KtsTurn ((envOf name scope L a cd :: outer).filterMap (·.frame)) g g') :
    ∃ h₁, KtsTurn (outer.filterMap (·.frame)) h₀ h₁ ∧ Fr h₁ L g' m ∧ Below A₀ base outer h₁ := by
  have nL : h₀.get? L = none := kts_self F
  obtain ⟨T₁, S₁⟩ := kts_turn_at (h := g') (fs := outer.filterMap (·.frame)) (g := h₀)
    (fun b hb => by
      obtain ⟨_, o, ho, _⟩ := K.frames.mem hb
      exact ⟨o, ho⟩)
    (fun b o e nm => T.other b o (F.keep b o e) (fun q => by
      rcases kts_mem q with z | z
      · rw [z, nL] at e
        cases e
      · exact nm z))
    (fun b o e _ => T.up (F.keep b o e))
  have U : g.UpToSlots g' := fun b o e _ => T.up e
  refine ⟨_, T₁, ⟨U.ns F.ns, S₁, by rw [T₁.size]; exact F.above⟩, ⟨K.stack, fun b o e => T₁.other b o (K.stays b o e) (fun hm => by
    rw [(K.frames.mem hm).1] at e
    cases e), K.frames.of_keeps fun b o e _ => ?_⟩⟩
  obtain ⟨sl, hs⟩ := T₁.up e
  exact ⟨_, hs, rfl⟩
/-- marks that the ground of the frame at hand has been turned -/
def Turned (g g' : Heap) : Prop := True
end Mine
end -- Ch
section -- Tc
open PySem PySem.W PySem.W.X PyProof.Rows PySem.Calls
namespace Mine
theorem noBool_type : typeLookup (.type "type") "__bool__" = pure none := by rw [typeLookup_type, builtinLookup_eq_fast]; kernel_rfl
theorem noLen_type : typeLookup (.type "type") "__len__" = pure none := by rw [typeLookup_type, builtinLookup_eq_fast]; kernel_rfl
def clsObj (K : Frag) (C : Addr) : Bool := match K.lookup C with
  | some ⟨.type t, _, .cls _, _⟩ => t == "type"
  | _ => false
theorem clsObj_at {K : Frag} {C : Addr} {h : Heap} (X : K.In h) (e : clsObj K C = true) : ∃ o, h.get? C = some o ∧ o.cls = .type "type" := by
  unfold clsObj at e
  split at e
  · rename_i t d cd sl q
    have : t = "type" := by simpa using e
    subst this
    exact ⟨_, X _ _ q, rfl⟩
  · cases e
theorem truthy_cls {M : Model} {A : Around} {E : Value → Shared → Prop} {s : Shared} {K : Frag} {C : Addr} {Q : Bool → Shared → Prop} (X : K.In s.heap) (e : clsObj K C = true) (h : Q true s) : wpAny M A (truthy (.ref C)) Q E s := by
  have hT : s.TypeIs (.ref C) "type" := clsObj_at X e
  unfold truthy
  first
    | refine wpAny_bind (wpAny_callSpecial?_none (name := Str.ofString "__bool__") hT noBool_type ?_)
    | refine wpAny_bind (wpAny_pure (wpAny_bind (wpAny_callSpecial?_none (name := Str.ofString "__bool__") hT noBool_type ?_)))
  first
    | refine wpAny_bind (wpAny_specialOf (name := Str.ofString "__len__") hT noLen_type ?_)
    | refine wpAny_bind (wpAny_pure (wpAny_bind (wpAny_specialOf (name := Str.ofString "__len__") hT noLen_type ?_)))
  exact wpAny_pure h
end Mine
end -- Tc
section -- Nu
open PySem PySem.W PySem.W.X PyProof.Rows PySem.Calls
set_option maxHeartbeats 2000000
namespace Mine
section
variable {prog : Program} {w : World} {M : Model} {A : Around} {E : Value → Shared → Prop} {s : Shared} {K : Frag} {h₀ : Heap} {L C : Addr} {m mg : PySem.Str → Option Value} {news : List (Addr × Obj)} {x : PySem.Str} {B newId initId : String} {bmB : List Value} {env : Env}
theorem call_own {rest : List Value} {Q : Value → Shared → Prop} (FB : ExcBaseFacts B newId initId bmB) (O : OwnCls x C bmB newId mg h₀) (F : Fr h₀ L s.heap m) (hrest : rest.length ≤ sizeLine)
    (h : ∀ h' e, Heap.MadeExcOf s.heap h' e (.ref C) rest → Q (.ref e) { s with heap := h' }) : wpAny (model prog w) A (call (.ref C) rest) Q E s := by
  obtain ⟨bm, N, nm, q, bs, hdct, sn, sub, ab, col, dd, k0, k1, k2, k3, k5, mN, hC, hN, hni, T⟩ := (O.keeps F.keep).obj
  obtain ⟨hp, g, d, tk, os⟩ := s
  exact wpAny_call_exc_subT FB T hC hN hni (fun h' e hm => h h' e hm) hrest
/-- the fresh exception, its tuple, and the heap without them -/
theorem made_hide {h' : Heap} {e : Addr} {vs : List Value} (F : Fr h₀ L h' m) (N : News h₀ L h' news) {t : Addr} (he : h'.get? e = some { cls := .ref C, data := .fields #[.ref t, .none, .none, .none, .bool false, .none] })
    (ht : h'.get? t = some { cls := .type "tuple", data := .seq vs.toArray }) (he0 : h₀.get? e = none) (ht0 : h₀.get? t = none) (hne : ∀ p ∈ news, p.1 ≠ e ∧ p.1 ≠ t) :
    ∃ h, Fr h₀ L h m ∧ News h₀ L h news ∧ Heap.MadeExcOf h h' e (.ref C) vs := by
  obtain ⟨oL, es, ep, hL, hLd, hLk, hLf⟩ := F.ns
  have hLe : L ∉ [e, t] := fun q => by
    rcases List.mem_cons.mp q with rfl | q
    · rw [he] at hL; cases hL; cases hLd
    · rcases List.mem_cons.mp q with rfl | q
      · rw [ht] at hL; cases hL; cases hLd
      · cases q
  refine ⟨hideAll h' [e, t], ⟨⟨oL, es, ep, hideAll_get _ hL hLe, hLd, hLk, hLf⟩, fun b o hb => hideAll_get _ (F.keep b o hb) fun q => ?_, F.above⟩, fun p hp => ⟨hideAll_get _ (N p hp).1 fun q => ?_, (N p hp).2⟩, ⟨fun b o q => of_hideAll _ q, hideAll_none _ (List.mem_cons_self ..), t, he, hideAll_none _ (List.mem_cons_of_mem _ (List.mem_cons_self ..)), ht⟩⟩
  · rcases List.mem_cons.mp q with rfl | q
    · rw [he0] at hb; cases hb
    · rcases List.mem_cons.mp q with rfl | q
      · rw [ht0] at hb; cases hb
      · cases q
  · rcases List.mem_cons.mp q with z | q
    · exact (hne p hp).1 z
    · rcases List.mem_cons.mp q with z | q
      · exact (hne p hp).2 z
      · cases q
def excO (cls : Value) (t : Addr) : Obj := { cls := cls, data := .fields #[.ref t, .none, .none, .none, .bool false, .none] }
def tupO (vs : List Value) : Obj := { cls := .type "tuple", data := .seq vs.toArray }
theorem made_led {h h' : Heap} {e : Addr} {cls : Value} {vs : List Value} (F : Fr h₀ L h m) (N : News h₀ L h news) (mx : Heap.MadeExcOf h h' e cls vs) :
    ∃ t, Fr h₀ L h' m ∧ News h₀ L h' ((e, excO cls t) :: (t, tupO vs) :: news) ∧ ∀ p ∈ news, p.1 ≠ e ∧ p.1 ≠ t := by
  obtain ⟨t, he, htn, ht⟩ := mx.there
  obtain ⟨oL, es, ep, hL, _⟩ := F.ns
  have ne : ∀ b, h.get? b = none → b ≠ L := fun b hb q => by rw [q, hL] at hb; cases hb
  refine ⟨t, F.keeps mx.keeps, fun p hp => ?_, fun p hp => ⟨fun q => ?_, fun q => ?_⟩⟩
  · rcases List.mem_cons.mp hp with rfl | hp
    · exact ⟨he, ne _ mx.new, kts_none F.keep mx.new⟩
    · rcases List.mem_cons.mp hp with rfl | hp
      · exact ⟨ht, ne _ htn, kts_none F.keep htn⟩
      · exact ⟨mx.keeps _ _ (N p hp).1, (N p hp).2⟩
  · have := (N p hp).1; rw [q, mx.new] at this; cases this
  · have := (N p hp).1; rw [q, htn] at this; cases this
def ROwn (K : Frag) (C : Addr) (E : Value → Shared → Prop) (v : Value) (s₁ : Shared) : Prop :=
  ∃ e t, v = .ref e ∧ K.In s₁.heap ∧ s₁.heap.get? e = some { cls := .ref C, data := .fields #[.ref t, .none, .none, .none, .bool false, .none] } ∧ E (.ref e) s₁
theorem ROwn.intro {h : Heap} {e : Addr} {vs : List Value} {s₁ : Shared} (X : K.In s₁.heap) (mx : Heap.MadeExcOf h s₁.heap e (.ref C) vs) (hE : E (.ref e) s₁) : ROwn K C E (.ref e) s₁ := by
  obtain ⟨t, he, _, _⟩ := mx.there
  exact ⟨e, t, rfl, X, he, hE⟩
theorem Raise_val {y : Expr} {pos : Pos} {Q : Flow → Shared → Prop} {T : String} (X : K.In s.heap) (q : ktsIn K C T = true) (hh : A.handled = none) (h : wpAny M A (eval y env) (ROwn K C E) E s) :
    wpAny M A (exec (.Raise (some y) none pos) env) Q E s := by
  obtain ⟨nm, qn, N, bs, bm, hdct, sn, sub, ab, col, dd, k0, k1, k2, k3, k5, newId, hC, hbase, _⟩ := kts_cls X q
  have hl : ∃ o, K.lookup C = some o := by
    unfold ktsIn at q
    split at q
    · rename_i ho
      exact ⟨_, ho⟩
    · cases q
  obtain ⟨o, ho⟩ := hl
  have hoC := X _ _ ho
  rw [hC] at hoC
  have e := Option.some.inj hoC
  subst e
  rw [arm_exec_Raise]
  simp only [evalOpt, Option.map]
  refine wpAny_bind (wpAny_standAt (wpAny_raiseStmt_made_sub (C := C) (nm := nm) (q := qn) (N := N) (bs := bs) (bm := bm) (hdct := hdct) (sn := sn) (sub := sub) (ab := ab) (col := col) (dd := dd) (k0 := k0) (k1 := k1) (k2 := k2) (k3 := k3) (k5 := k5) (newId := newId) hbase hh
    (wpAny_bind (wpAny_mono h (fun v s₁ h₁ => wpAny_bind (wpAny_standAt (wpAny_pure ?_))) fun _ _ x => x))))
  obtain ⟨e, t, rfl, X₁, he, hE⟩ := h₁
  exact ⟨e, t, rfl, X₁ _ _ ho, he, hE⟩
end
abbrev CtN (w : World) (c : Addr) : Prop :=
  ∀ (mean : ExcName → Option Value) (mg mb : Str → Option Value) (gd : Option (List Code)) (cn : Str) (nm : List (Str × NameKind)) (ig ic : Bool) (more : List (Str × Const)) (a : Addr) (ccd : Value) (cl : List (Str × Addr)) (outer : List Env) (A₀ : Around) (base h₀ : Heap) (L : Addr) (m : Str → Option Value) (news : List (Addr × Obj)) (s : Shared) (Q E : Value → Shared → Prop),
    Below A₀ base outer h₀ → Fr h₀ L s.heap m → (fr.heap_1 w.params).In h₀ → News h₀ L s.heap news → Top qv (looseW qv loose) mean mg mb h₀ →
    (∀ h h' e vs tk, Fr h₀ L h m → News h₀ L h news → Heap.MadeExcOf h h' e (.ref (nat_lit 38)) vs → Fr h₀ L h' m → Q (.ref e) { s with heap := h', toks := tk }) →
      wpAny (model PW w) (ktrTop 304 13 gd cn ⟨.function, nm, ig, ic, more⟩ L a ccd cl outer) (call (.ref (nat_lit 70)) [.ref c]) Q E s
theorem pct {prog : Program} {w : World} {A : Around} {E Q : Value → Shared → Prop} {s : Shared} {x : Str} {t u : Tok} (hx : x.length ≤ 40) (h : ∀ y tk tk', Q (.str y tk) { s with toks := tk' }) :
    wpAny (model prog w) A (binaryOp Operator.Mod (.str (Str.ofString "%s does not allow NULL bytes in password") t) (.str x u)) Q E s := by
  refine' KPc.mod_str ?kpcF ?kpcl ?kpcm ?_
  case kpcF => kpc_eq
  case kpcl => omega
  case kpcm => k_dflt kpc_run_s
  intro _ _
  exact h _ _ _
local macro_rules | `(tactic| wtm_at "z binaryOp Mod str str") => `(tactic| (k_here; (with_reducible show wpAny _ _ (binaryOp Operator.Mod (Value.str _ _) (Value.str _ _)) _ _ _); refine pct (by k_dflt exact Nat.le_of_ble_eq_true rfl) ?_; intro _ _ _))
local macro_rules | `(tactic| wtm_at "z truthy ref") => `(tactic| (k_here; (with_reducible show wpAny _ _ (truthy (Value.ref _)) _ _ _); k_dflt (refine truthy_cls (K := fr.heap_1 _) (by k_in) (by kernel_rfl) ?_)))
local macro_rules | `(tactic| wtm_at "z call ref") => `(tactic| (k_here; (with_reducible show wpAny _ _ (call (Value.ref (nat_lit 38)) _) _ _ _); refine mark ?_))
theorem c_null1 (w : World) : CtN w (nat_lit 1139) := by
  unfold CtN
  intros
  rename_i hret
  k_steps
  refine unmark ?_
  k_dflt (refine call_own (x := Str.ofString "PasswordValueError") PySem.F.excBase_ValueError (own_of_in (K := fr.heap_1 w.params) (by k_asm) (by k_asm) (by k_is) (by k_exc)) (by k_asm) (by (rw [PySem.sizeLine_eq]; exact Nat.le_of_ble_eq_true rfl)) ?_)
  intro h1 e1 mx
  rename Fr _ _ _ _ => F0
  rename News _ _ _ _ => N0
  obtain ⟨t1, F1, N1, hne⟩ := made_led F0 N0 mx
  clear F0 N0 mx
  k_steps
  rename News _ _ _ _ => kN
  rename Fr _ _ _ _ => kF
  obtain ⟨h, F2, N2, mx2⟩ := made_hide kF (fun p hp => kN p (List.mem_cons_of_mem _ (List.mem_cons_of_mem _ hp))) (kN _ (List.mem_cons_self ..)).1 (kN _ (List.mem_cons_of_mem _ (List.mem_cons_self ..))).1 (kN _ (List.mem_cons_self ..)).2.2 (kN _ (List.mem_cons_of_mem _ (List.mem_cons_self ..))).2.2 hne
  exact hret h _ e1 _ _ F2 N2 mx2 kF
theorem c_null2 (w : World) : CtN w (nat_lit 1153) := by
  unfold CtN
  intros
  rename_i hret
  k_steps
  refine unmark ?_
  k_dflt (refine call_own (x := Str.ofString "PasswordValueError") PySem.F.excBase_ValueError (own_of_in (K := fr.heap_1 w.params) (by k_asm) (by k_asm) (by k_is) (by k_exc)) (by k_asm) (by (rw [PySem.sizeLine_eq]; exact Nat.le_of_ble_eq_true rfl)) ?_)
  intro h1 e1 mx
  rename Fr _ _ _ _ => F0
  rename News _ _ _ _ => N0
  obtain ⟨t1, F1, N1, hne⟩ := made_led F0 N0 mx
  clear F0 N0 mx
  k_steps
  rename News _ _ _ _ => kN
  rename Fr _ _ _ _ => kF
  obtain ⟨h, F2, N2, mx2⟩ := made_hide kF (fun p hp => kN p (List.mem_cons_of_mem _ (List.mem_cons_of_mem _ hp))) (kN _ (List.mem_cons_self ..)).1 (kN _ (List.mem_cons_of_mem _ (List.mem_cons_self ..))).1 (kN _ (List.mem_cons_self ..)).2.2 (kN _ (List.mem_cons_of_mem _ (List.mem_cons_self ..))).2.2 hne
  exact hret h _ e1 _ _ F2 N2 mx2 kF
theorem c_null3 (w : World) : CtN w (nat_lit 1196) := by
  unfold CtN
  intros
  rename_i hret
  k_steps
  refine unmark ?_
  k_dflt (refine call_own (x := Str.ofString "PasswordValueError") PySem.F.excBase_ValueError (own_of_in (K := fr.heap_1 w.params) (by k_asm) (by k_asm) (by k_is) (by k_exc)) (by k_asm) (by (rw [PySem.sizeLine_eq]; exact Nat.le_of_ble_eq_true rfl)) ?_)
  intro h1 e1 mx
  rename Fr _ _ _ _ => F0
  rename News _ _ _ _ => N0
  obtain ⟨t1, F1, N1, hne⟩ := made_led F0 N0 mx
  clear F0 N0 mx
  k_steps
  rename News _ _ _ _ => kN
  rename Fr _ _ _ _ => kF
  obtain ⟨h, F2, N2, mx2⟩ := made_hide kF (fun p hp => kN p (List.mem_cons_of_mem _ (List.mem_cons_of_mem _ hp))) (kN _ (List.mem_cons_self ..)).1 (kN _ (List.mem_cons_of_mem _ (List.mem_cons_self ..))).1 (kN _ (List.mem_cons_self ..)).2.2 (kN _ (List.mem_cons_of_mem _ (List.mem_cons_self ..))).2.2 hne
  exact hret h _ e1 _ _ F2 N2 mx2 kF
theorem c_null4 (w : World) : CtN w (nat_lit 1240) := by
  unfold CtN
  intros
  rename_i hret
  k_steps
  refine unmark ?_
  k_dflt (refine call_own (x := Str.ofString "PasswordValueError") PySem.F.excBase_ValueError (own_of_in (K := fr.heap_1 w.params) (by k_asm) (by k_asm) (by k_is) (by k_exc)) (by k_asm) (by (rw [PySem.sizeLine_eq]; exact Nat.le_of_ble_eq_true rfl)) ?_)
  intro h1 e1 mx
  rename Fr _ _ _ _ => F0
  rename News _ _ _ _ => N0
  obtain ⟨t1, F1, N1, hne⟩ := made_led F0 N0 mx
  clear F0 N0 mx
  k_steps
  rename News _ _ _ _ => kN
  rename Fr _ _ _ _ => kF
  obtain ⟨h, F2, N2, mx2⟩ := made_hide kF (fun p hp => kN p (List.mem_cons_of_mem _ (List.mem_cons_of_mem _ hp))) (kN _ (List.mem_cons_self ..)).1 (kN _ (List.mem_cons_of_mem _ (List.mem_cons_self ..))).1 (kN _ (List.mem_cons_self ..)).2.2 (kN _ (List.mem_cons_of_mem _ (List.mem_cons_self ..))).2.2 hne
  exact hret h _ e1 _ _ F2 N2 mx2 kF
theorem c_null5 (w : World) : CtN w (nat_lit 1254) := by
  unfold CtN
  intros
  rename_i hret
  k_steps
  refine unmark ?_
  k_dflt (refine call_own (x := Str.ofString "PasswordValueError") PySem.F.excBase_ValueError (own_of_in (K := fr.heap_1 w.params) (by k_asm) (by k_asm) (by k_is) (by k_exc)) (by k_asm) (by (rw [PySem.sizeLine_eq]; exact Nat.le_of_ble_eq_true rfl)) ?_)
  intro h1 e1 mx
  rename Fr _ _ _ _ => F0
  rename News _ _ _ _ => N0
  obtain ⟨t1, F1, N1, hne⟩ := made_led F0 N0 mx
  clear F0 N0 mx
  k_steps
  rename News _ _ _ _ => kN
  rename Fr _ _ _ _ => kF
  obtain ⟨h, F2, N2, mx2⟩ := made_hide kF (fun p hp => kN p (List.mem_cons_of_mem _ (List.mem_cons_of_mem _ hp))) (kN _ (List.mem_cons_self ..)).1 (kN _ (List.mem_cons_of_mem _ (List.mem_cons_self ..))).1 (kN _ (List.mem_cons_self ..)).2.2 (kN _ (List.mem_cons_of_mem _ (List.mem_cons_self ..))).2.2 hne
  exact hret h _ e1 _ _ F2 N2 mx2 kF
end Mine
end -- Nu
section -- Lx
open PySem PySem.W PySem.W.X PyProof.Rows PySem.Calls PySem.Spec
namespace Mine
section
variable {M : Model} {A : Around} {E : Value → Shared → Prop} {s' : Shared} {base g g₂ h : Heap} {outer : List Env} {env : Env} {L e t : Addr} {m : Str → Option Value} {Q : Unit → Shared → Prop} {news : List (Addr × Obj)} {cls : Value}
theorem memX {b : Addr} (hf : env.frame = some L) (hm : b ∈ (env :: outer).filterMap (·.frame)) : b = L ∨ b ∈ outer.filterMap (·.frame) := by
  obtain ⟨env', he, hf'⟩ := List.mem_filterMap.mp hm
  rcases List.mem_cons.mp he with rfl | he
  · rw [hf] at hf'; exact .inl (Option.some.inj hf').symm
  · exact .inr (List.mem_filterMap.mpr ⟨env', he, hf'⟩)
theorem outX (K : Below A base outer g) (F : Fr g L h m) (N : News g L h news) (hf : env.frame = some L) (hk : env.scope.kind = .function) :
    base.StaysIn (hideAll h ((env :: outer).filterMap (·.frame))) ∧ (∀ b o, g.get? b = some o → b ∉ outer.filterMap (·.frame) → (hideAll h ((env :: outer).filterMap (·.frame))).get? b = some o) ∧
      (∀ q ∈ news, (hideAll h ((env :: outer).filterMap (·.frame))).get? q.1 = some q.2 ∧ g.get? q.1 = none ∧ base.get? q.1 = none) ∧ (hideAll h ((env :: outer).filterMap (·.frame))).FunFrames (hideAll h ((env :: outer).filterMap (·.frame))) [] ∧
      h.FunFrames (hideAll h ((env :: outer).filterMap (·.frame))) (env :: outer) := by
  have K' := pushX K F hf hk
  have hin : ∀ env' ∈ (env :: outer), ∀ b, env'.frame = some b → b ∈ (env :: outer).filterMap (·.frame) := fun env' he b hb => List.mem_filterMap.mpr ⟨env', he, hb⟩
  refine ⟨fun b o q => hideAll_get _ (K'.stays b o q) fun hm => ?_, fun b o q nm => hideAll_get _ (F.keep b o q) fun hm => ?_, fun q hq => ⟨hideAll_get _ (N q hq).1 fun hm => ?_, (N q hq).2.2, fresh_of_stays K.stays (N q hq).2.2⟩, trivial, funFrames_hide K'.frames hin⟩
  · rw [(K'.frames.mem hm).1] at q; cases q
  · rcases memX hf hm with z | z
    · rw [z, kts_self F] at q
      cases q
    · exact nm z
  · rcases memX hf hm with z | z
    · exact (N q hq).2.1 z
    · obtain ⟨_, o, ho, _⟩ := K.frames.mem z
      rw [(N q hq).2.2] at ho; cases ho
theorem leaveX_newL {X : String} (hf : env.frame = some L) (hk : env.scope.kind = .function) (K : Below A base outer g) (hx : NewExcL h s'.heap e X) (F : Fr g L h m) (N : News g L h news)
    (hQ : ∀ h', RaisedSN base g outer e (.type X) news h' → g.UpToSlots h' → Q () { s' with heap := h' }) : wpAny M (A.deeper env) («leaving» env (.ref e)) Q E s' := by
  obtain ⟨st, sg, hl, _, hff⟩ := outX K F N hf hk
  obtain ⟨ob, vs, tp, he, hcls, hd, h0, h1⟩ := hx.there
  have hen : (hideAll h ((env :: outer).filterMap (·.frame))).get? e = none := by
    cases q : (hideAll h ((env :: outer).filterMap (·.frame))).get? e with
    | none => rfl
    | some o => have := of_hideAll _ q; rw [hx.new] at this; cases this
  refine wpAny_leaving_firstW (a0 := tp) (Around.frames_deeper K.stack) (hff.of_keeps fun b o hb _ => ⟨o, hx.keeps b o hb, rfl⟩) hf he (fun b o hb => hx.keeps b o (of_hideAll _ hb)) hen hd h1 h0 fun h' hL => ?_
  obtain ⟨k1, ⟨_, _, k2⟩, k3, k4⟩ := hL
  exact hQ h' ⟨_, tp, st, sg, hl, k1, hen, k2, by rw [← hcls]; exact k3⟩ (((Heap.UpToSlots.of_keeps F.keep).trans (Heap.UpToSlots.of_keeps hx.keeps)).trans k4)
theorem leaveX_raiseS {vs : List Value} (hf : env.frame = some L) (hk : env.scope.kind = .function) (K : Below A base outer g) (hx : Heap.MadeExcOf h s'.heap e cls vs) (F : Fr g L h m) (N : News g L h news)
    (hQ : ∀ h' t, RaisedS base g outer e cls t vs news h' → g.UpToSlots h' → Q () { s' with heap := h' }) : wpAny M (A.deeper env) («leaving» env (.ref e)) Q E s' := by
  obtain ⟨st, sg, hl, _, hff⟩ := outX K F N hf hk
  exact wpAny_leaves_madeW (Around.frames_deeper K.stack) hf (fun b o q => of_hideAll _ q) hff hx fun h' t x1 x2 x3 x4 =>
    hQ h' t ⟨⟨_, st, sg, hl, x1, x3⟩, x2⟩ (((Heap.UpToSlots.of_keeps F.keep).trans (Heap.UpToSlots.of_keeps hx.keeps)).trans x4)
theorem leaveX_onS {vs : List Value} (hf : env.frame = some L) (K : Below A base outer g) (F : Fr g L g₂ m) (R : RaisedS base g₂ (env :: outer) e cls t vs news s'.heap) (hsm : g₂.UpToSlots s'.heap)
    (hQ : ∀ h', RaisedS base g outer e cls t vs news h' → g.UpToSlots h' → Q () { s' with heap := h' }) : wpAny M (A.deeper env) («leaving» env (.ref e)) Q E s' := by
  obtain ⟨⟨B, hB, hBG, hl, hfl, hnew⟩, htup⟩ := R
  exact wpAny_leaves_onW (Around.frames_deeper K.stack) hf hfl fun h' x1 x2 =>
    hQ h' ⟨⟨B, hB, fun b o q nm => hBG b o (F.keep b o q) (fun hm => by
      rcases memX hf hm with z | z
      · rw [z, kts_self F] at q
        cases q
      · exact nm z), fun q hq => ⟨(hl q hq).1, kts_none F.keep (hl q hq).2.1, (hl q hq).2.2⟩, x1, hnew⟩, htup.of_slots x2⟩ ((Heap.UpToSlots.of_keeps F.keep).trans (hsm.trans x2))
theorem leaveX_onSN (hf : env.frame = some L) (K : Below A base outer g) (F : Fr g L g₂ m) (R : RaisedSN base g₂ (env :: outer) e cls news s'.heap) (hsm : g₂.UpToSlots s'.heap)
    (hQ : ∀ h', RaisedSN base g outer e cls news h' → g.UpToSlots h' → Q () { s' with heap := h' }) : wpAny M (A.deeper env) («leaving» env (.ref e)) Q E s' := by
  obtain ⟨B, a0, hB, hBG, hl, hfl⟩ := R
  exact wpAny_leaves_onW (Around.frames_deeper K.stack) hf hfl fun h' x1 x2 =>
    hQ h' ⟨B, a0, hB, fun b o q nm => hBG b o (F.keep b o q) (fun hm => by
      rcases memX hf hm with z | z
      · rw [z, kts_self F] at q
        cases q
      · exact nm z), fun q hq => ⟨(hl q hq).1, kts_none F.keep (hl q hq).2.1, (hl q hq).2.2⟩, x1⟩ ((Heap.UpToSlots.of_keeps F.keep).trans (hsm.trans x2))
end
end Mine
end -- Lx
section -- Ue
open PySem PySem.W PySem.W.X PyProof.Rows PySem.Calls PySem.Builtin
open PySem.Builtin.UnicodeEncodeError (Members members setMembers unset strArgument sizeArgument initRange beginInit)
namespace Mine
abbrev UEE : String := "UnicodeEncodeError"
theorem ueeNew : ExcNewFacts UEE "UnicodeEncodeError.__new__" where
  ends := by decide +kernel
  owner := by decide +kernel
  entry := entryFor_alias (id' := "BaseException.__new__") (by rw [fastTable_eq_tree]; kernel_rfl) (by first | rfl | decide +kernel) (by decide +kernel) (by rw [fastTable_eq_tree]; kernel_rfl)
  sub := by rw [isSubtype_type]; kernel_rfl
  notAttr := by rw [isSubtype_type]; kernel_rfl
  notName := by rw [isSubtype_type]; kernel_rfl
  made := by kernel_rfl
theorem uee_notType : (Value.type UEE == Value.type "type") = false := by decide +kernel
theorem uee_canMake : ((Manifest.find? UEE).bind fun x => List.findSome? (fun t => (Manifest.find? t).bind fun b =>
    if b.noNew = true then some true else if (b.attrs.any fun x => x.fst == "__new__") = true then some false else none) x.mro).getD false = false := by kernel_rfl
theorem uee_noVector (args : Args) : checkTypeCall UEE args = pure () := by kernel_rfl
theorem uee_mro : ∃ m, mroOf (.type UEE) = pure m ∧ m.isEmpty = false := ⟨[.type UEE, .type "UnicodeError", .type "ValueError", .type "Exception", .type "BaseException", .type "object"], by rw [mroOf_type]; kernel_rfl, rfl⟩
theorem uee_madeBy : Bind.madeBy (.type UEE) = pure (some "UnicodeEncodeError.__new__") := by kernel_rfl
theorem uee_newOk (rest : List Value) : checkBuiltinCall "UnicodeEncodeError.__new__" ⟨.type UEE :: rest, []⟩ = pure () := by kernel_rfl
theorem uee_init : Slot UEE "__init__" "UnicodeEncodeError.__init__" :=
  .of (owner := UEE) (n := "__init__") (by rw [typeLookup_type, builtinLookup_eq_fast]; kernel_rfl) (by decide +kernel) (by decide +kernel) (by decide +kernel)
    (by first | exact .inl (by decide +kernel) | exact .inr (by decide +kernel)) (by rw [isSubtype_type]; kernel_rfl)
theorem uee_initEntry : entryFor table "UnicodeEncodeError.__init__" = some «UnicodeEncodeError.__init__» := entryFor_of_tree (by kernel_rfl)
theorem uee_sub : isSubtype (.type UEE) (.type UEE) = pure true := by rw [isSubtype_type]; kernel_rfl
theorem uee_args (a b c d e f : Value) : argsOk "UnicodeEncodeError.__init__" ⟨[a, b, c, d, e, f], []⟩ := by unfold argsOk; kernel_rfl
theorem uee_sub_value : isSubtype (.type UEE) (.type "ValueError") = pure true := by rw [isSubtype_type]; kernel_rfl
/-- the record of the exception: its six plain fields and its own members -/
def ueeO (t : Addr) (ms : Option Members) : Obj :=
  { cls := .type UEE, data := .fields (#[.ref t, .none, .none, .none, .bool false, .none] ++ (match ms with | none => #[] | some m => #[m.encoding, m.object, rawInt m.start, rawInt m.stop, m.reason])) }
def Same (e : Addr) (h h' : Heap) : Prop := (∀ b o, b ≠ e → h.get? b = some o → h'.get? b = some o)
theorem Same.trans {e : Addr} {h h₁ h₂ : Heap} (x : Same e h h₁) (y : Same e h₁ h₂) : Same e h h₂ := fun b o n q => y b o n (x b o n q)
section
variable {M : Model} {A : Around} {E : Value → Shared → Prop} {s : Shared} {e t : Addr} {ms : Option Members}
theorem members_at {Q : Members → Shared → Prop} (he : s.heap.get? e = some (ueeO t ms)) (h : Q (ms.getD {}) s) : wpAny M A (members (.ref e)) Q E s := by
  unfold members fieldsOf
  refine wpAny_bind (wpAny_bind (wpAny_load he ?_))
  cases ms with
  | none => exact wpAny_pure (wpAny_pure h)
  | some m => exact wpAny_pure (wpAny_pure h)
theorem setMembers_at {Q : Unit → Shared → Prop} (m : Members) (he : s.heap.get? e = some (ueeO t ms)) (h : ∀ h', Same e s.heap h' → h'.get? e = some (ueeO t (some m)) → Q () { s with heap := h' }) : wpAny M A (setMembers (.ref e) m) Q E s := by
  unfold setMembers
  have hd : (ueeO t ms).data = .fields (#[.ref t, .none, .none, .none, .bool false, .none] ++ (match ms with | none => #[] | some m => #[m.encoding, m.object, rawInt m.start, rawInt m.stop, m.reason])) := rfl
  refine wpAny_updateFields he hd (h _ (fun b o n q => by rw [Heap.get?_update_other _ _ (Ne.symm n)]; exact q) ?_) ?_
  · rw [Heap.get?_update_self _ he (by cases ms <;> rfl)]
    cases ms <;> rfl
  · rw [sizeLine_eq]
    cases ms <;> simp <;> omega
theorem letGo_one {v : Value} {Q : Unit → Shared → Prop} (h : Q () s) : wpAny M A (letGo [v]) Q E s := by
  unfold letGo
  refine wpAny_bind (wpAny_holding (wpAny_point ?_))
  unfold letGo
  exact wpAny_pure h
theorem size_atW {id : String} {i : Int} {u : Tok} {Q : Int → Shared → Prop} (h0 : 0 ≤ i) (h1 : i < 1000) (h : Q i s) : wpAny M A (sizeArgument id (.int i u)) Q E s := by
  unfold sizeArgument asIndex
  refine wpAny_bind (wpAny_bind (wpAny_of_eq (a := some i) rfl ?_))
  refine wpAny_pure ?_
  have e : (decide (i < -(2 ^ 63 : Int)) || decide (i ≥ 2 ^ 63)) = false := by simp; omega
  rw [if_neg (by rw [e]; exact Bool.false_ne_true)]
  exact wpAny_pure h
theorem str_arg {id : String} {k : Nat} {x : Str} {u : Tok} {Q : Unit → Shared → Prop} (h : Q () s) : wpAny M A (strArgument id k (.str x u)) Q E s := by
  unfold strArgument
  refine wpAny_bind (wpAny_of_eq (a := some x) rfl ?_)
  rw [if_neg (by simp)]
  exact wpAny_pure h
theorem init_body {c x r : Str} {i j : Int} {t1 t2 t3 t4 t5 : Tok} {Q : Fin → Shared → Prop} (he : s.heap.get? e = some (ueeO t none)) (i0 : 0 ≤ i) (i1 : i < 1000) (j0 : 0 ≤ j) (j1 : j < 1000)
    (h : ∀ h' t' m, Same e s.heap h' → h'.get? e = some (ueeO t' (some m)) → Q (.done (.ret .none)) { s with heap := h' }) :
    wpAny M A («UnicodeEncodeError.__init__» ⟨[.ref e, .str c t1, .str x t2, .int i t3, .int j t4, .str r t5], []⟩) Q E s := by
  have heL : ∀ {h h' : Heap} {o : Obj}, h.get? e = some o → e ≠ h.objs.size := fun q => Nat.ne_of_lt (Heap.lt_size q)
  unfold «UnicodeEncodeError.__init__» beginInit
  refine wpAny_bind (wpAny_bind (wpAny_field he rfl rfl ?_))
  unfold newTuple
  refine wpAny_bind (wpAny_newObj_type ?_)
  have he1 := Heap.get?_push_of_some (h := s.heap) { cls := .type "tuple", data := .seq [Value.str c t1, Value.str x t2, Value.int i t3, Value.int j t4, Value.str r t5].toArray } he
  have S1 : Same e s.heap (s.heap.push { cls := .type "tuple", data := .seq [Value.str c t1, Value.str x t2, Value.int i t3, Value.int j t4, Value.str r t5].toArray }) := fun b o _ q => Heap.get?_push_of_some _ q
  revert he1 S1
  generalize s.heap.push { cls := .type "tuple", data := .seq [Value.str c t1, Value.str x t2, Value.int i t3, Value.int j t4, Value.str r t5].toArray } = H1
  intro he1 S1
  refine wpAny_bind (wpAny_setField he1 rfl (by show 0 < 6; decide) ?_)
  have he2 : (H1.update e (Obj.mapFields (·.setIfInBounds 0 (Value.ref s.heap.objs.size)))).get? e = some (ueeO s.heap.objs.size none) := by
    rw [Heap.get?_update_self _ he1 rfl]
    rfl
  have S2 : Same e s.heap (H1.update e (Obj.mapFields (·.setIfInBounds 0 (Value.ref s.heap.objs.size)))) := S1.trans fun b o n q => by
    rw [Heap.get?_update_other _ _ (Ne.symm n)]; exact q
  revert he2 S2
  generalize H1.update e (Obj.mapFields (·.setIfInBounds 0 (Value.ref s.heap.objs.size))) = H2
  intro he2 S2
  refine wpAny_bind (letGo_one ?_)
  rw [if_pos (by rfl)]
  refine wpAny_bind (members_at he2 ?_)
  refine wpAny_bind (setMembers_at _ he2 fun H3 S3 he3 => ?_)
  refine wpAny_bind (letGo_one ?_)
  refine wpAny_bind (members_at he3 ?_)
  refine wpAny_bind (setMembers_at _ he3 fun H4 S4 he4 => ?_)
  refine wpAny_bind (letGo_one ?_)
  refine wpAny_bind (members_at he4 ?_)
  refine wpAny_bind (setMembers_at _ he4 fun H5 S5 he5 => ?_)
  refine wpAny_bind (letGo_one ?_)
  dsimp only
  rw [if_neg (by simp)]
  refine wpAny_pure ?_
  dsimp only
  refine wpAny_bind (str_arg ?_)
  refine wpAny_bind (str_arg ?_)
  refine wpAny_bind ?_
  unfold initRange
  refine wpAny_bind (size_atW i0 i1 ?_)
  refine wpAny_bind (members_at he5 ?_)
  refine wpAny_bind (setMembers_at _ he5 fun H6 S6 he6 => ?_)
  refine wpAny_bind (size_atW j0 j1 ?_)
  refine wpAny_bind (members_at he6 ?_)
  refine setMembers_at _ he6 fun H7 S7 he7 => ?_
  refine wpAny_bind (str_arg ?_)
  refine wpAny_bind (members_at he7 ?_)
  refine wpAny_bind (setMembers_at _ he7 fun H8 S8 he8 => ?_)
  exact wpAny_pure (h H8 _ _ ((((((S2.trans S3).trans S4).trans S5).trans S6).trans S7).trans S8) he8)
end
end Mine

namespace Mine
section
variable {prog : Program} {w : World} {A : Around} {E : Value → Shared → Prop}
theorem uee_type_call {c x r : Str} {i j : Int} {t1 t2 t3 t4 t5 : Tok} {Q : Fin → Shared → Prop} {hp : Heap} {g : Array GenState} {d : Drawn} {tk : Nat} {os : OsState} (i0 : 0 ≤ i) (i1 : i < 1000) (j0 : 0 ≤ j) (j1 : j < 1000)
    (h : ∀ h' e, NewExcL hp h' e UEE → Q (.done (.ret (.ref e))) ⟨h', g, d, tk, os⟩) :
    wpAny (model prog w) A (Builtin.«type.__call__» ⟨.type UEE :: [.str c t1, .str x t2, .int i t3, .int j t4, .str r t5], []⟩) Q E ⟨hp, g, d, tk, os⟩ := by
  have hnt := uee_notType
  have hcan := uee_canMake
  have hchk := uee_noVector ⟨[.str c t1, .str x t2, .int i t3, .int j t4, .str r t5], []⟩
  obtain ⟨m, hmro, hne⟩ := uee_mro
  have hmade := uee_madeBy
  wp_walk
  refine codeAny_call_builtin_code (Code.quiet_builtin _ (by decide +kernel)) (wpAny_of_eq (uee_newOk _) ?_)
  refine codeAny_exc_new ueeNew ?_ (by rw [sizeLine_eq]; exact Nat.le_of_ble_eq_true rfl)
  show wpAny _ _ _ _ _ _
  have hget : ((hp.push { cls := .type "tuple", data := .seq [Value.str c t1, Value.str x t2, Value.int i t3, Value.int j t4, Value.str r t5].toArray }).push (ueeO hp.objs.size none)).get? (hp.objs.size + 1) = some (ueeO hp.objs.size none) := by
    rw [← Heap.size_push (o := { cls := .type "tuple", data := .seq [Value.str c t1, Value.str x t2, Value.int i t3, Value.int j t4, Value.str r t5].toArray })]
    exact Heap.get?_push_size _ rfl
  have S0 : ∀ b o, hp.get? b = some o → ((hp.push { cls := .type "tuple", data := .seq [Value.str c t1, Value.str x t2, Value.int i t3, Value.int j t4, Value.str r t5].toArray }).push (ueeO hp.objs.size none)).get? b = some o :=
    fun b o q => Heap.get?_push_of_some _ (Heap.get?_push_of_some _ q)
  revert hget S0
  show (_ → _ → wpAny _ _ _ _ _ ⟨(hp.push { cls := .type "tuple", data := .seq [Value.str c t1, Value.str x t2, Value.int i t3, Value.int j t4, Value.str r t5].toArray }).push (ueeO hp.objs.size none), g, d, tk, os⟩)
  generalize (hp.push { cls := .type "tuple", data := .seq [Value.str c t1, Value.str x t2, Value.int i t3, Value.int j t4, Value.str r t5].toArray }).push (ueeO hp.objs.size none) = H
  intro hget S0
  have hT : (⟨H, g, d, tk, os⟩ : Shared).TypeIs (.ref (hp.objs.size + 1)) UEE := ⟨_, hget, rfl⟩
  refine wpAny_bind (wpAny_isInstance hT uee_sub ?_)
  wp_step
  refine wpAny_bind (wpAny_holding (wpAny_callSpecial?_slot hT uee_init (wpAny_call_entry uee_init hT uee_initEntry (init_body hget i0 i1 j0 j1 fun h' t' ms S he => ?_) (uee_args _ _ _ _ _ _))))
  refine ⟨_, rfl, ?_⟩
  have fin : NewExcL hp h' (hp.objs.size + 1) UEE := ⟨fun b o q => S b o (Nat.ne_of_lt (Nat.lt_succ_of_lt (Heap.lt_size q))) (S0 b o q), Heap.get?_none_of_le (Nat.le_succ _), _, _, _, he, rfl, rfl, rfl, rfl⟩
  dsimp only
  rw [if_neg (by decide)]
  exact wpAny_pure (h h' _ fin)
theorem uee_call {c x r : Str} {i j : Int} {t1 t2 t3 t4 t5 : Tok} {Q : Value → Shared → Prop} {s : Shared} (i0 : 0 ≤ i) (i1 : i < 1000) (j0 : 0 ≤ j) (j1 : j < 1000)
    (h : ∀ h' e, NewExcL s.heap h' e UEE → Q (.ref e) { s with heap := h' }) :
    wpAny (model prog w) A (call (.type UEE) [.str c t1, .str x t2, .int i t3, .int j t4, .str r t5]) Q E s := by
  obtain ⟨hp, g, d, tk, os⟩ := s
  refine wpAny_call (codeAny_of_tree ?_)
  show wpAny _ _ (again (.builtin "type.__call__" ⟨.type UEE :: [.str c t1, .str x t2, .int i t3, .int j t4, .str r t5], []⟩)) _ _ _
  exact wpAny_pure ⟨Code.quiet_builtin _ (by decide +kernel), codeAny_builtin entry_typeCall (uee_type_call i0 i1 j0 j1 (fun h' e hm => h h' e hm))⟩
theorem raise_fault {α : Type} {x : Str} {t2 : Tok} {i j : Nat} {Q : α → Shared → Prop} {s : Shared} (hh : A.handled = none) (hi : i < 1000) (hj : j < 1000) (h : ∀ h' tk e, NewExcL s.heap h' e UEE → E (.ref e) { s with heap := h', toks := tk }) :
    wpAny (model prog w) A (_codecs.raiseEncodeFault (α := α) {} "ascii" (.str x t2) i j "ordinal not in range(128)") Q E s := by
  unfold _codecs.raiseEncodeFault
  refine wpAny_bind ?_
  show wpAny _ _ (do call (.type UEE) [← mkStr (Str.ofString "ascii"), ← pure (.str x t2), ← mkInt i, ← mkInt j, ← mkStr (Str.ofString "ordinal not in range(128)")]) _ _ _
  refine wpAny_bind (wpAny_mkStr ?_ (by decide))
  refine wpAny_bind (wpAny_pure ?_)
  refine wpAny_bind (wpAny_mkInt ?_)
  refine wpAny_bind (wpAny_mkInt ?_)
  refine wpAny_bind (wpAny_mkStr ?_ (by decide))
  refine uee_call (by omega) (by omega) (by omega) (by omega) fun h' e hn => ?_
  unfold raiseNew
  refine wpAny_bind (wpAny_handled ?_)
  rw [hh]
  first
    | exact wpAny_throw (h _ _ _ hn)
    | exact wpAny_bind (wpAny_pure (wpAny_throw (h _ _ _ hn)))
end
end Mine
end -- Ue
section -- Un
open PySem PySem.W PySem.W.X PyProof.Rows PySem.Calls PySem.Builtin
namespace Mine
section
variable {prog : Program} {w : World} {A : Around} {E : Value → Shared → Prop} {s : Shared} {x : Str} {t t2 : Tok}
theorem narrow_bad {Q : Array UInt8 → Shared → Prop} (hb : ∃ c ∈ x.cps.toList, 128 ≤ c) (h9 : x.length ≤ 20) (hh : A.handled = none) (h : ∀ h' tk e, NewExcL s.heap h' e UEE → E (.ref e) { s with heap := h', toks := tk }) :
    wpAny (model prog w) A (_codecs.encodeNarrow "str.encode" _codecs.asciiCodec none (.str x t) x) Q E s := by
  have hsz : x.length = x.cps.size := rfl
  have e0 : x.cps.extract 0 x.cps.size = x.cps := by simp
  obtain ⟨c, hc, hc8⟩ := hb
  have hpos : 0 < x.cps.size := by
    have := List.length_pos_of_mem hc
    simpa using this
  unfold _codecs.encodeNarrow
  simp only [Std.Legacy.Range.forIn_eq_forIn_range']
  rw [show ([:x.length] : Std.Legacy.Range).size = x.length by simp [Std.Legacy.Range.size]]
  refine wpAny_bind ?_
  obtain ⟨n, hn⟩ : ∃ n, x.length = n + 1 := ⟨x.length - 1, by omega⟩
  rw [hn, List.range'_succ, List.forIn_cons]
  refine wpAny_bind ?_
  have h0 : x.cps[0]? = some (x.cps[0]'hpos) := Array.getElem?_eq_getElem _
  rw [h0]
  dsimp only
  rw [if_neg (show ¬ ((#[] : Array UInt8).size > sizeLine) from Nat.not_lt_zero _)]
  have hstr : ((none : Option Str).getD (Str.ofString "strict")).toString = "strict" := by decide +kernel
  have hidx : ∀ (p : Nat → Bool) (a : Array Nat), a.size ≤ 20 → (Array.findIdx? p a).getD a.size ≤ 20 := fun p a ha => by
    cases q : Array.findIdx? p a with
    | none => exact ha
    | some k =>
      obtain ⟨hk, _⟩ := Array.findIdx?_eq_some_iff_getElem.mp q
      show k ≤ 20
      omega
  by_cases hb0 : _codecs.asciiCodec.bad (x.cps[0]'hpos) = true
  · rw [if_neg (by rw [hb0]; decide)]
    refine wpAny_bind (wpAny_rule ?_)
    rw [hstr]
    split
    · rename_i heq
      exfalso
      revert heq
      split <;> simp_all
    rw [if_pos (by decide +kernel)]
    refine wpAny_bind (raise_fault (i := 0) hh (by decide) ?_ h)
    have := hidx (fun y => !_codecs.asciiCodec.bad y) (x.cps.extract 0) (by simp; omega)
    simp at this ⊢
    omega
  · rw [if_pos (by simpa using hb0)]
    refine wpAny_pure ?_
    dsimp only
    have hp : ∃ k, ∃ hk : k < x.cps.size, Array.findIdx? _codecs.asciiCodec.bad x.cps = some k ∧ _codecs.asciiCodec.bad x.cps[k] = true := by
      cases q : Array.findIdx? _codecs.asciiCodec.bad x.cps with
      | none =>
        rw [Array.findIdx?_eq_none_iff] at q
        have := q c (Array.mem_toList_iff.mp hc)
        have h2 : decide (c ≥ 128) = false := this
        simp at h2
        omega
      | some k =>
        obtain ⟨hk, hkb, _⟩ := Array.findIdx?_eq_some_iff_getElem.mp q
        exact ⟨k, hk, rfl, hkb⟩
    obtain ⟨k, hk, hf, hkb⟩ := hp
    have hk0 : k ≠ 0 := fun q => by subst q; exact hb0 hkb
    obtain ⟨n', hn'⟩ : ∃ n', n = n' + 1 := ⟨n - 1, by omega⟩
    rw [e0, hf, hn', List.range'_succ, List.forIn_cons]
    refine wpAny_bind ?_
    dsimp only [Option.getD_some]
    have hout : (Array.foldl (fun acc y => acc ++ (_codecs.asciiCodec.bytesOf y).toArray) #[] (x.cps.extract 0 k)).size ≤ 20 := by
      rw [← Array.foldl_toList, fold_asc _ _root_.PySem.Builtin._codecs.asciiCodec.bytesOf (fun _ _ => rfl)]
      simp
      omega
    rw [if_neg (by rw [sizeLine_eq]; omega)]
    rw [show x.cps[0 + k]? = some (x.cps[k]) by rw [Nat.zero_add]; exact Array.getElem?_eq_getElem hk]
    dsimp only
    rw [if_neg (by rw [hkb]; decide)]
    refine wpAny_bind (wpAny_rule ?_)
    rw [hstr]
    split
    · rename_i heq
      exfalso
      revert heq
      split <;> simp_all
    rw [if_pos (by decide +kernel)]
    refine wpAny_bind (raise_fault (i := 0 + k) hh (by omega) ?_ h)
    have := hidx (fun y => !_codecs.asciiCodec.bad y) (x.cps.extract (0 + k)) (by simp; omega)
    simp at this ⊢
    omega
theorem enc_bad {Q : Value → Shared → Prop} (hb : ∃ c ∈ x.cps.toList, 128 ≤ c) (h9 : x.length ≤ 20) (hh : A.handled = none) (h : ∀ h' tk e, NewExcL s.heap h' e UEE → E (.ref e) { s with heap := h', toks := tk }) :
    wpAny (model prog w) A (call (.builtin "str.encode") [.str x t, .str (Str.ofString "ascii") t2]) Q E s := by
  refine wpAny_call (codeAny_call_builtin F.slot_str_encode.plain F.entry_str_encode (F.slot_str_encode.check _ _ _ _ _ _ _ _ (typeIs_str _ _ _) (F.args_str_encode_2 _ _) ?_))
  rw [enc_entry x t t2 _ (by decide +kernel) (by decide +kernel), ascii_road]
  exact wpAny_bind (wpAny_bind (narrow_bad hb h9 hh h))
end
end Mine
end -- Un
section -- Gb
open PySem PySem.W PySem.W.X PyProof.Rows PySem.Calls PySem.Builtin
namespace Mine
section
variable {prog : Program} {w : World} {A : Around} {E : Value → Shared → Prop} {s : Shared} {b : Array UInt8} {t : Tok}
theorem nextB_item {it : Addr} {i : Nat} {c : UInt8} {Q : Value → Shared → Prop} (hit : KBw.IsBytesIter s.heap it b t i) (hx : b[i]? = some c)
    (hQ : ∀ h', KBw.IsBytesIter h' it b t (i + 1) → Heap.SameBut it s.heap h' → Q (.int (c.toNat : Int) s.toks) { s with heap := h', toks := s.toks + 1 }) : wpAny (model prog w) A (SmallTypes.nextOf (.ref it)) Q E s := by
  obtain ⟨o, ho, hc, hd⟩ := id hit
  unfold SmallTypes.nextOf
  refine wpAny_bind (wpAny_callSpecial?_slot (name := PySem.Str.ofString "__next__") (KBw.iter_typeIs hit) KBw.slot_next
    (wpAny_call_entry KBw.slot_next (KBw.iter_typeIs hit) KBw.entry_next ?_ (KBw.args_next _)))
  show wpAny _ _ (field (.ref it) 0 >>= _) _ _ s
  refine wpAny_bind (wpAny_field ho hd (x := .bytes b t) rfl ?_)
  show wpAny _ _ (if (Value.bytes b t == Value.none) = true then _ else _) _ _ s
  rw [if_neg (show ¬ ((Value.bytes b t == Value.none) = true) from Bool.false_ne_true)]
  show wpAny _ _ (field (.ref it) 1 >>= _) _ _ s
  refine wpAny_bind (wpAny_field ho hd (x := .int i 0) rfl ?_)
  refine wpAny_bind (wpAny_of_eq (a := b) rfl ?_)
  simp only [Int.toNat_natCast, hx]
  refine wpAny_bind (wpAny_setField ho hd (by simp) (wpAny_bind (wpAny_mkInt (wpAny_pure ⟨_, rfl, wpAny_pure (hQ _ ?_ (Heap.SameBut.update ..))⟩))))
  exact ⟨_, Heap.get?_update_self _ ho (Obj.isFreed_of_fields (Obj.data_mapFields hd _)), (Obj.cls_mapFields ..).trans hc, by
    rw [Obj.data_mapFields hd]; simp [rawInt]⟩
theorem nextB_end {it : Addr} {i : Nat} {Q : Value → Shared → Prop} (hh : A.handled = none) (hit : KBw.IsBytesIter s.heap it b t i) (hx : b[i]? = none)
    (hE : ∀ h' e, Heap.ExtBut it s.heap h' → (∃ o, h'.get? e = some o ∧ o.cls = .type "StopIteration") → E (.ref e) { s with heap := h' }) : wpAny (model prog w) A (SmallTypes.nextOf (.ref it)) Q E s := by
  obtain ⟨o, ho, hc, hd⟩ := id hit
  unfold SmallTypes.nextOf
  refine wpAny_bind (wpAny_callSpecial?_slot (name := PySem.Str.ofString "__next__") (KBw.iter_typeIs hit) KBw.slot_next
    (wpAny_call_entry KBw.slot_next (KBw.iter_typeIs hit) KBw.entry_next ?_ (KBw.args_next _)))
  show wpAny _ _ (field (.ref it) 0 >>= _) _ _ s
  refine wpAny_bind (wpAny_field ho hd (x := .bytes b t) rfl ?_)
  show wpAny _ _ (if (Value.bytes b t == Value.none) = true then _ else _) _ _ s
  rw [if_neg (show ¬ ((Value.bytes b t == Value.none) = true) from Bool.false_ne_true)]
  show wpAny _ _ (field (.ref it) 1 >>= _) _ _ s
  refine wpAny_bind (wpAny_field ho hd (x := .int i 0) rfl ?_)
  refine wpAny_bind (wpAny_of_eq (a := b) rfl ?_)
  simp only [Int.toNat_natCast, hx]
  refine wpAny_bind (wpAny_rule (wpAny_bind (wpAny_setField ho hd (by simp) ?_)))
  show wpAny _ _ (newExc (.type "StopIteration") [] >>= _) _ _ _
  refine wpAny_bind ?_
  simp only [newExc, newTuple]
  refine wpAny_bind (wpAny_newObj_type ?_ (by size_fits))
  refine wpAny_bind (m := firstArgMember _ _) (wpAny_of_eq (a := Value.none) (by first | rfl | (simp only [firstArgMember]; rfl)) ?_)
  refine wpAny_newObj_type ?_ (by size_fits)
  simp only [raiseNew]
  refine wpAny_bind (wpAny_handled ?_)
  first | rw [show A.in1.handled = none from hh] | rw [hh]
  refine wpAny_bind (wpAny_pure (wpAny_throw ?_))
  exact hE _ _ (((Heap.SameBut.update ..).extBut.push _).push _) ⟨_, Heap.get?_push_size _ rfl, rfl⟩
end
theorem drawsB {prog : Program} {w : World} {A : Around} (hh : A.handled = none) (it : Addr) (b : Array UInt8) (t : Tok) :
    Draws prog w A it [it] b.size (fun i v => ∃ c u, b[i]? = some c ∧ v = .int (c.toNat : Int) u) (fun i h => KBw.IsBytesIter h it b t i) where
  live := fun _ _ st => let ⟨o, ho, _⟩ := st; ⟨o, ho⟩
  frame := fun _ _ _ st hk => let ⟨o, ho, r⟩ := st; ⟨o, hk it (by simp) o ho, r⟩
  item := fun i s Q E hi st hQ => by
    refine nextB_item st (c := b[i]) (by simp [hi]) fun h' hit' hs' => ?_
    exact hQ _ h' _ ⟨_, _, by simp [hi], rfl⟩ hit' hs'
  done := fun s Q E st hE => nextB_end hh st (by simp) hE
/-- enumerate of a bytes -/
theorem walksEB {prog : Program} {w : World} {A : Around} (hh : A.handled = none) (e it : Addr) (hei : e ≠ it) (b : Array UInt8) (t : Tok) :
    WalksU prog w A e [e, it] [e, it] b.size (fun i vals => ∃ u x, (∃ c u', b[i]? = some c ∧ x = Value.int (c.toNat : Int) u') ∧ vals = #[.int i u, x])
      (fun i h => (∃ old, IsEnum h e it i old) ∧ KBw.IsBytesIter h it b t i) (fun i T h => (∃ x, IsEnumOut h e it ((i : Int) + 1) x T) ∧ KBw.IsBytesIter h it b t (i + 1) ∧ T ≠ e ∧ T ≠ it) :=
  (WalksT.enumerateD (drawsB (A := A.in1) hh it b t) e hei (by simp [hei]) (by simp)).toU
set_option maxHeartbeats 2000000 in
theorem meets_enumB (b : Array UInt8) (t : Tok) :
    Meets (Builtin.«enumerate.__new__» ⟨[.type "enumerate", .bytes b t], []⟩) (fun _ R s =>
      R (.ok (.ret (.ref (s.heap.push { cls := .type "bytes_iterator", data := .fields #[.bytes b t, .int 0 0] }).objs.size)))
        { s with heap := (s.heap.push { cls := .type "bytes_iterator", data := .fields #[.bytes b t, .int 0 0] }).push { cls := .type "enumerate", data := .fields #[.none, .bool false, .ref s.heap.objs.size, rawInt 0, .none, .none] } }) :=
  .of_wp fun prog w A R s h => by
    obtain ⟨hp, g, d, tk, os⟩ := s
    have hsub := sub_enumerate
    wp_walk
    refine wpAny_stack_any fun st => wpAny_pure ?_
    split
    · rename_i c _ _ _ _ _
      cases (c == Value.type "enumerate")
      · wp_walk using KBw.pyIter_bytes
        exact ⟨_, rfl, h⟩
      · wp_walk using KBw.pyIter_bytes
        exact ⟨_, rfl, h⟩
    · wp_walk using KBw.pyIter_bytes
      exact ⟨_, rfl, h⟩
theorem call_enumB {prog : Program} {w : World} {A : Around} {E : Value → Shared → Prop} {s : Shared} {b : Array UInt8} {t : Tok} {Q : Value → Shared → Prop}
    (h : ∀ h', IsEnum h' (s.heap.objs.size + 1) s.heap.objs.size 0 .none → KBw.IsBytesIter h' s.heap.objs.size b t 0 → h'.objs.size = s.heap.objs.size + 2 →
      (∀ b o, s.heap.get? b = some o → h'.get? b = some o) → Q (.ref (s.heap.objs.size + 1)) { s with heap := h' }) :
    wpAny (model prog w) A (call (.type "enumerate") [.bytes b t]) Q E s := by
  refine callType_new F.called_enumerate (by decide) (F.typeCall_enumerate_1 _) (F.newCall_enumerate_1 _) (fun obj => F.args_object_init_2 obj _) F.entry_enumerate_new
    (meets_enumB b t) ?_
  have hz : (s.heap.push { cls := .type "bytes_iterator", data := .fields #[.bytes b t, .int 0 0] }).objs.size = s.heap.objs.size + 1 := Heap.size_push ..
  show _ ∧ _
  rw [hz]
  have he : IsEnum ((s.heap.push { cls := .type "bytes_iterator", data := .fields #[.bytes b t, .int 0 0] }).push
      { cls := .type "enumerate", data := .fields #[.none, .bool false, .ref s.heap.objs.size, rawInt 0, .none, .none] }) (s.heap.objs.size + 1) s.heap.objs.size 0 .none := by
    have := Heap.get?_push_size (s.heap.push { cls := .type "bytes_iterator", data := .fields #[.bytes b t, .int 0 0] })
      (o := { cls := .type "enumerate", data := .fields #[.none, .bool false, .ref s.heap.objs.size, rawInt 0, .none, .none] }) rfl
    rw [hz] at this; exact this
  refine ⟨⟨_, he, rfl⟩, h _ he ⟨_, Heap.get?_push_of_some _ (Heap.get?_push_size _ rfl), rfl, rfl⟩ (by rw [Heap.size_push, hz]) fun b o y => Heap.get?_push_of_some _ (Heap.get?_push_of_some _ y)⟩
end Mine
end -- Gb
section -- Gk
open PySem PySem.W PySem.W.X PyProof.Rows PySem.Calls
set_option maxHeartbeats 2000000
namespace Mine
/-- the generators: all bare, the two that the top left still finished -/
def GB (gens : Array GenState) : Prop := AllBare gens ∧ ∀ i, i < 2 → gens[i]? = some .finished
theorem GB.two {gens : Array GenState} (G : GB gens) : 2 ≤ gens.size := by
  obtain ⟨h, _⟩ := Array.getElem?_eq_some_iff.mp (G.2 1 (by decide))
  exact h
theorem GB.push {gens : Array GenState} {g : GenState} (G : GB gens) (hg : g.bare = true) : GB (gens.push g) :=
  ⟨G.1.push hg, fun i hi => by rw [Array.getElem?_push_lt (Nat.lt_of_lt_of_le hi G.two)]; rw [← G.2 i hi]; simp⟩
theorem GB.moved {a b : Array GenState} {g : Nat} (G : GB a) (hg : 2 ≤ g) (hm : GenOnlyQ g a b) : GB b := by
  refine ⟨G.1.moved hm, fun i hi => ?_⟩
  rcases hm with e | ⟨⟨_, e⟩, _⟩
  · rw [e]; exact G.2 i hi
  · rw [e i (by omega)]; exact G.2 i hi
/-- a generator whose number is none of the top's -/
def GenB (prog : Program) (w : World) (A : Around) (L a : Addr) (n : Nat) (F : Nat → Value → Prop) (s : Shared) : Prop :=
  ∃ fp wr g St, 2 ≤ g ∧ WalksS prog w A.in4 a fp wr (GenOnlyQ g) n F St ∧ St 0 s ∧ (∀ b ∈ fp, b < s.heap.objs.size) ∧ ∀ b ∈ wr, L < b
/-- the table of a code's children -/
def KidsOk (op : Obj) : Prop := ∃ ps, op = { cls := .none, data := .fields ps } ∧ TriplesOk ps.toList
/-- what the K must say of the code object c with the table P -/
def KidCode (K : Frag) (c P : Addr) : Prop := ∃ o vs file tf flags tg inF text tt, K.lookup c = some o ∧ o.data = .fields vs ∧ vs.getD 11 .none = .ref P ∧ vs.getD 18 .none = .str file tf ∧ vs.getD 7 .none = .int flags tg ∧
  vs.getD 9 .none = .bool inF ∧ vs.getD 10 .none = .int text tt ∧ c ≠ P ∧ o.cls = .type "code" ∧ vs[11]? = some (.ref P)
theorem wpAny_kidCode {M : Model} {A : Around} {E : Value → Shared → Prop} {s : Shared} {env : Env} {c P : Addr} {ps : Array Value} {pos : Pos} {qualname : PySem.Str} {scope : Scope} {Q : Value → Shared → Prop} (hc : env.code = .ref c) (hok : s.heap.IsCode c P ps) (htab : s.heap.TableAt c P ps)
    (hQ : ∀ code h' tk ps', Heap.ExtBut P s.heap h' → h'.get? P = some { cls := .none, data := .fields ps' } → TriplesOk ps'.toList → Q code { s with heap := h', toks := tk }) : wpAny M A (genexprCode env pos qualname scope) Q E s := by
  cases hnf : codeAmong pos ps.toList with
  | none =>
    refine wpAny_genexprCodeX hc hok htab hnf fun c' h' tk hx _ _ hok' _ htab' _ => hQ _ h' tk _ hx htab'.2 ?_
    obtain ⟨_, _, _, _, _, _, _, _, _, op', _, _, _, _, _, _, _, _, _, z, _⟩ := hok'
    exact z
  | some cv =>
    obtain ⟨o, vs, file, tf, flags, tg, inF, text, tt, op, ho, hd, h11, h2, h7, h9, h10, hop, hpd, htr, hne⟩ := id hok
    unfold genexprCode codeAt
    rw [hc, if_neg (show ¬ ((Value.ref c == Value.none) = true) from Bool.false_ne_true)]
    refine wpAny_bind (wpAny_fieldsOf ho hd ?_)
    rw [h11]
    refine wpAny_bind (wpAny_fieldsOf hop hpd ?_)
    rw [hnf]
    exact wpAny_pure (hQ cv s.heap s.toks ps (Heap.ExtBut.refl _ _) htab.2 htr)
/-- the iterator that a generator walks on: enumerate of some octets, both new -/
def GenIn (g : Heap) (L : Addr) (m : PySem.Str → Option Value) (led : List (Addr × Obj)) (lim : Nat) (s : Shared) (xv : Value) (s₁ : Shared) : Prop :=
  ∃ it b t, xv = .ref (it + 1) ∧ Fr g L s₁.heap m ∧ News g L s₁.heap led ∧ IsEnum s₁.heap (it + 1) it 0 .none ∧ KBw.IsBytesIter s₁.heap it b t 0 ∧ L < it ∧ (∀ q ∈ led, q.1 < it) ∧ b.size ≤ lim ∧ s₁.gens = s.gens ∧ s₁.os = s.os
section
variable {w : World} {prog : Program} {A : Around} {E : Value → Shared → Prop} {s : Shared} {K : Frag} {g : Heap} {L c P : Addr} {m mg mb : PySem.Str → Option Value} {news : List (Addr × Obj)} {op : Obj} {p : Program} {loose : List PySem.Str} {mean : ExcName → Option Value}
theorem gen_K {env : Env} {elt iter : Expr} {xa xb : PySem.Str} {pa pb pt : Pos} {kt : Nat} {scope : Scope} {pos : Pos} {Q : Value → Shared → Prop} {lim : Nat} (val : Nat → UInt8 → Int)
    (F : Fr g L s.heap m) (N : News g L s.heap ((P, op) :: news)) (hne : ∀ q ∈ news, q.1 ≠ P) (X : K.In g) (T : Top p loose mean mg mb g) (G : GB s.gens) (hcode : env.code = .ref c) (hck : KidCode K c P) (hk : KidsOk op)
    (hg : env.globals = mainGlobals) (hclos : closureFor scope env = pure [])
    (h : wpAny (model prog w) A (eval iter env) (GenIn g L m ((P, op) :: news) lim s) E s)
    (helt : ∀ (C : Addr) (code : Value) (A' : Around) E' (i : Nat) (k : UInt8) (ui uk : Tok) (t : Shared) m₂, i < lim → A'.handled = none → A'.depth ≤ A.depth + 1 → A'.units ≤ A.units + 8 → Fr g C t.heap m₂ → m₂ xa = some (.int i ui) → m₂ xb = some (.int k.toNat uk) →
      wpAny (model prog w) A' (eval elt (genEnv scope [] C code builtinsNs env)) (fun y s₃ => (∃ tt, y = .int (val i k) tt) ∧ Keeps t s₃) E' t)
    (hQ : ∀ (a : Addr) (op' : Obj) (s' : Shared) (Kb : Addr) (n : Nat) (val' : Nat → Int), KidsOk op' → Fr g L s'.heap m → News g L s'.heap ((P, op') :: news) → GB s'.gens → s'.os = s.os → L ≤ Kb → (∀ q ∈ news, q.1 ≤ Kb) → P ≤ Kb → GenB prog w A Kb a n (fun j y => ∃ t, y = .int (val' j) t) s' → Q (.ref a) s')
    (hh : A.handled = none) (hco : scope.isCoroutine = false) (hcell : ∀ y ∈ scope.names, y.2 ≠ .cell) (h0 : scope.names.lookup (".0" : PySem.Str) = some NameKind.local)
    (hxa : scope.names.lookup xa = some .local) (hxb : scope.names.lookup xb = some .local) (hab : xa ≠ xb) (hkind : scope.kind = .function) (hroom : A.depth < recursionLimit)
    (hs : ∀ x, genFold iter env x = pure x) :
    wpAny (model prog w) A (eval (.GeneratorExp elt [⟨.Tuple [.Name xa pa, .Name xb pb] kt pt, iter, [], 0⟩] scope pos) env) Q E s := by
  refine wpAny_GeneratorExp_walksQTD hh hco hclos hcell h0 hxa hxb hab hkind hroom (wpAny_mono h (fun xv s₁ h₁ => ?_) fun _ _ e => e) hs
  obtain ⟨it, b, t, hxv, F₁, N₁, hen, hit, hLi, hled, hbl, hgen, hos⟩ := h₁
  obtain ⟨e, he⟩ : ∃ e, e = it + 1 := ⟨_, rfl⟩
  rw [← he] at hxv hen
  subst hxv
  have hei : e ≠ it := by rw [he]; exact Nat.succ_ne_self _
  have hLe : L < e := by rw [he]; exact Nat.lt_succ_of_lt hLi
  have hPi : P < it := hled _ (List.mem_cons_self ..)
  have hNi : ∀ q ∈ news, q.1 < it := fun q hq => hled _ (List.mem_cons_of_mem _ hq)
  have hie : it ≤ e := by rw [he]; exact Nat.le_succ _
  have W := walksEB (prog := prog) (w := w) hh e it hei b t
  have hst : (∃ old, IsEnum s₁.heap e it 0 old) ∧ KBw.IsBytesIter s₁.heap it b t 0 := ⟨⟨_, hen⟩, hit⟩
  refine W.self 0 s₁ _ E hst ?_
  have hl₁ : s₁.heap.NoLimit := T.nolimit.keeps F₁.keep
  refine ⟨hl₁, ?_⟩
  obtain ⟨ps, hpe, htr⟩ := hk
  have hpd : op.data = .fields ps := by rw [hpe]
  obtain ⟨oc, vs, file, tf, flags, tg, inF, text, tt, hKo, hd, q11, q2, q7, q9, q10, hcP, qcls, q11'⟩ := hck
  have hPg : g.get? P = none := N₁.fresh (List.mem_cons_self ..)
  have hok : s₁.heap.IsCode c P ps := ⟨oc, vs, file, tf, flags, tg, inF, text, tt, op, F₁.keep _ _ (X _ _ hKo), hd, q11, q2, q7, q9, q10, N₁.get (List.mem_cons_self ..), hpd, htr, hcP⟩
  have htab : s₁.heap.TableAt c P ps := ⟨⟨oc, vs, F₁.keep _ _ (X _ _ hKo), qcls, hd, q11'⟩, by rw [← hpe]; exact N₁.get (List.mem_cons_self ..)⟩
  refine wpAny_kidCode hcode hok htab fun code h₃ tk₃ ps' hx₃ hop' htr' => ?_
  have keep₃ : ∀ b o, g.get? b = some o → h₃.get? b = some o := fun b o e => hx₃ b o (fun q => by rw [q, hPg] at e; cases e) (F₁.keep b o e)
  have hLP : L ≠ P := fun q => (N₁ _ (List.mem_cons_self ..)).2.1 q.symm
  have F₃ : Fr g L h₃ m := ⟨F₁.ns.extBut hx₃ hLP, keep₃, F₁.above⟩
  obtain ⟨op', hpe'⟩ : ∃ op' : Obj, op' = { cls := .none, data := .fields ps' } := ⟨_, rfl⟩
  rw [← hpe'] at hop'
  have N₃ : News g L h₃ ((P, op') :: news) := fun q hq => by
    rcases List.mem_cons.mp hq with rfl | hq
    · exact ⟨hop', fun q => hLP q.symm, hPg⟩
    · exact ⟨hx₃ _ _ (hne q hq) (N₁ q (List.mem_cons_of_mem _ hq)).1, (N₁ q (List.mem_cons_of_mem _ hq)).2⟩
  obtain ⟨bm, ob, hb1, hb2, hb3, hb4, hb5, hb6⟩ := T.bmain
  refine wpAny_builtinsFor (m := mg) (by rw [hg]; exact T.g.keeps keep₃) hb1 hb2 (keep₃ _ _ hb3) hb4 hb5 hb6 ?_
  have heP : e ≠ P := Nat.ne_of_gt (Nat.lt_of_lt_of_le hPi hie)
  have hiP : it ≠ P := Nat.ne_of_gt hPi
  have hst₃ : (∃ old, IsEnum h₃ e it 0 old) ∧ KBw.IsBytesIter h₃ it b t 0 := W.frame 0 _ _ hst fun b hb o z => hx₃ b o (by rcases List.mem_cons.mp hb with rfl | hb; exact heP; rcases List.mem_cons.mp hb with rfl | hb; exact hiP; cases hb) z
  have heS : e < h₃.objs.size := by obtain ⟨⟨_, z⟩, _⟩ := hst₃; exact Heap.lt_size z
  have hiS : it < h₃.objs.size := by obtain ⟨_, o, z, _⟩ := id hst₃; exact Heap.lt_size z
  have hl₃ : h₃.NoLimit := T.nolimit.keeps keep₃
  have hcg : cStatics < g.objs.size := let ⟨_, hn, _⟩ := T.nolimit; hn.lt
  have hgs : g.objs.size ≤ L := F.above
  refine ⟨e, [e, it], [e, it], b.size, _, _, _, (fun _ => true), (fun i y => ∃ k tt, b[i]? = some k ∧ y = .int (val i k) tt), rfl, (fun A' hA => walksEB hA e it hei b t), (fun i vals q => by obtain ⟨u, x, _, rfl⟩ := q; exact ⟨_, _, rfl⟩), hst₃, ?_, hl₃, ?_, (fun href hhref => ⟨?_, ?_⟩), fun a h₅ tk gs hgb hag hsz₅ hk₅ W' hat => ?_⟩
  · intro b hb
    rcases List.mem_cons.mp hb with rfl | hb
    · exact heS
    · rcases List.mem_cons.mp hb with rfl | hb
      · exact hiS
      · cases hb
  · intro hm
    have hcL : cStatics < L := Nat.lt_of_lt_of_le hcg hgs
    rcases List.mem_cons.mp hm with q | hm
    · exact Nat.lt_irrefl _ (Nat.lt_trans (q ▸ hcL) hLe)
    · rcases List.mem_cons.mp hm with q | hm
      · exact Nat.lt_irrefl _ (Nat.lt_trans (q ▸ hcL) hLi)
      · cases hm
  · intro A' E' i va vb s₂ m₂ _ _ _ _ _ _ _ _
    exact wpAny_pure ⟨rfl, _, _, rfl, fun b o z => z⟩
  · intro A' E' i va vb s₂ m₂ hA hD hU hP _ hn hma hmb hkp
    obtain ⟨u, x, ⟨k, u', hbk, rfl⟩, hvals⟩ := hP
    have hva : va = .int i u := by injection hvals with q; injection q
    have hvb : vb = .int k.toNat u' := by injection hvals with q; injection q with q1 q2; injection q2
    subst hva hvb
    have hib : i < b.size := (Array.getElem?_eq_some_iff.mp hbk).1
    have hgL : ∀ z o, g.get? z = some o → z < L := fun z o q => Nat.lt_of_lt_of_le (Heap.lt_size q) F.above
    have F₂ : Fr g h₃.objs.size s₂.heap m₂ := ⟨hn, fun z o q => hkp z (List.mem_range.mpr (Heap.lt_size (keep₃ z o q))) (fun hm => by
      have := hgL z o q
      rcases List.mem_cons.mp hm with r | hm
      · exact Nat.lt_irrefl _ (Nat.lt_trans (r ▸ this) hLe)
      · rcases List.mem_cons.mp hm with r | hm
        · exact Nat.lt_irrefl _ (Nat.lt_trans (r ▸ this) hLi)
        · cases hm) o (hhref z o (keep₃ z o q)), Nat.le_trans F₁.above (Nat.le_of_lt F₃.ns.lt)⟩
    exact wpAny_mono (helt _ code A' E' i k u u' s₂ m₂ (Nat.lt_of_lt_of_le hib hbl) hA hD hU F₂ hma hmb) (fun y s₃ r => ⟨let ⟨tt, z⟩ := r.1; ⟨k, tt, hbk, z⟩, r.2⟩) fun _ _ z => z
  · refine hQ a op' _ (it - 1) _ (fun j => match (passing (fun _ => true) b.size 0)[j]? with | some i => (match b[i]? with | some k => val i k | none => 0) | none => 0) ⟨ps', hpe', htr'⟩ (F₃.keeps hk₅) (fun q hq => ⟨hk₅ _ _ (N₃ q hq).1, (N₃ q hq).2⟩) ((show GB s₁.gens by rw [hgen]; exact G).push hgb) hos (Nat.le_sub_one_of_lt hLi) (fun q hq => Nat.le_sub_one_of_lt (hNi q hq)) (Nat.le_sub_one_of_lt hPi) ⟨_, _, _, _, GB.two (show GB s₁.gens by rw [hgen]; exact G), W'.imp (fun j y q => ?_), hat, ?_, ?_⟩
    · obtain ⟨i, q1, k, tt, q2, q3⟩ := q
      exact ⟨tt, by rw [q1]; dsimp only; rw [q2]; exact q3⟩
    · intro b hb
      show b < h₅.objs.size
      rw [hsz₅]
      rcases List.mem_cons.mp hb with rfl | hb
      · exact Nat.lt_succ_self _
      · rcases List.mem_cons.mp hb with rfl | hb
        · exact Nat.lt_succ_of_lt hag
        · exact Nat.lt_succ_of_lt (Nat.lt_trans (List.mem_range.mp hb) hag)
    · intro b hb
      rcases List.mem_cons.mp hb with q | hb
      · rw [q]; exact Nat.lt_of_le_of_lt (Nat.sub_le _ _) hiS
      · rcases List.mem_cons.mp hb with rfl | hb
        · exact Nat.lt_of_lt_of_le (Nat.sub_one_lt_of_lt hLi) hie
        · rcases List.mem_cons.mp hb with rfl | hb
          · exact Nat.sub_one_lt_of_lt hLi
          · cases hb
theorem sum_K {a : Addr} {Kb n : Nat} {val : Nat → Int} {Q : Value → Shared → Prop} (F : Fr g L s.heap m) (N : News g L s.heap ((P, op) :: news)) (G : GB s.gens) (hL : L ≤ Kb) (hN : ∀ q ∈ news, q.1 ≤ Kb) (hP : P ≤ Kb)
    (X : GenB prog w A Kb a n (fun j y => ∃ t, y = .int (val j) t) s)
    (hQ : ∀ k t s', Fr g L s'.heap m → News g L s'.heap ((P, op) :: news) → GB s'.gens → s'.os = s.os → Q (.int k t) s') : wpAny (model prog w) A (call (.builtin "sum") [.ref a]) Q E s := by
  obtain ⟨fp, wr, g', St, hg2, W, hst, hfp, hwr⟩ := X
  have W := W.in4_1
  refine call_sum_walkAnyS (W.self 0 _ _ _ hst ⟨a, _, _, _, _, _, _, val, rfl, W, hst, hfp, (fun _ _ q => q), fun s' t' hm => hQ _ t' s' (F.moved hm fun b hb => Nat.lt_of_le_of_lt hL (hwr b hb)) (fun q hq => ⟨hm.heap _ _ (fun hmem => ?_) (N q hq).1, (N q hq).2⟩) (G.moved hg2 hm.gens) hm.os⟩)
  have hb := hwr _ hmem
  rcases List.mem_cons.mp hq with rfl | hq
  · exact Nat.lt_irrefl _ (Nat.lt_of_lt_of_le hb hP)
  · exact Nat.lt_irrefl _ (Nat.lt_of_lt_of_le hb (hN q hq))
end
end Mine
end -- Gk
section -- K0
open PySem PySem.W PySem.W.X PyProof.Rows PySem.Calls
set_option maxHeartbeats 800000
namespace Mine
def kidAt (K : Frag) (c P : Addr) : Bool := match K.lookup c with
  | some o => (match o.data with
    | .fields vs => (match vs.getD 11 .none, vs.getD 18 .none, vs.getD 7 .none, vs.getD 9 .none, vs.getD 10 .none with
      | .ref p, .str _ _, .int _ _, .bool _, .int _ _ => p == P && c != P && (match o.cls with | Value.type n => n == "code" | _ => false) && (match (vs[11]? : Option Value) with | some (Value.ref p') => p' == P | _ => false)
      | _, _, _, _, _ => false)
    | _ => false)
  | none => false
theorem kidCode_of {K : Frag} {c P : Addr} (h : kidAt K c P = true) : KidCode K c P := by
  unfold kidAt at h
  split at h
  · rename_i o ho
    split at h
    · rename_i vs hd
      split at h
      · rename_i p file tf flags tg inF text tt a1 a2 a3 a4 a5
        obtain ⟨h, q4⟩ := Bool.and_eq_true_iff.mp h
        obtain ⟨h, q3⟩ := Bool.and_eq_true_iff.mp h
        obtain ⟨q1, q2⟩ := Bool.and_eq_true_iff.mp h
        have q1 : p = P := by simpa using q1
        subst q1
        refine ⟨o, vs, file, tf, flags, tg, inF, text, tt, ho, hd, a1, a2, a3, a4, a5, by simpa using q2, ?_, ?_⟩
        · split at q3
          · rename_i n e
            have q5 : n = "code" := by simpa using q3
            rw [e, q5]
          · cases q3
        · split at q4
          · rename_i p' e
            have q5 : p' = p := by simpa using q4
            rw [e, q5]
          · cases q4
      · cases h
    · cases h
  · cases h
theorem kid1107 (P : Params) : KidCode (fr.heap_1 P) (nat_lit 1107) (nat_lit 1103) := kidCode_of (by kernel_rfl)
/-- what a call must give back where the walk ends in another state: the generators and the table of the children may have grown -/
abbrev RetG (h₀ : Heap) (L : Addr) (m : Str → Option Value) (news : List (Addr × Obj)) (s : Shared) (Q : Value → Shared → Prop) (P : Value → Prop) : Prop :=
  ∀ (v : Value) (s' : Shared) (op' : Obj), P v → KidsOk op' → Fr h₀ L s'.heap m → News h₀ L s'.heap ((nat_lit 1103, op') :: news) → GB s'.gens → s'.os = s.os → Q v s'
abbrev CtK (dp un : Nat) (w : World) (f : Addr) (vs : List Value) (P : Value → Prop) : Prop :=
  ∀ (mean : ExcName → Option Value) (mg mb : Str → Option Value) (gd : Option (List Code)) (cn : Str) (nm : List (Str × NameKind)) (ig ic : Bool) (more : List (Str × Const)) (a : Addr) (ccd : Value) (cl : List (Str × Addr)) (outer : List Env) (A₀ : Around) (base h₀ : Heap) (L : Addr) (m : Str → Option Value) (news : List (Addr × Obj)) (op : Obj) (s : Shared) (Q E : Value → Shared → Prop),
    Below A₀ base outer h₀ → Fr h₀ L s.heap m → (fr.heap_1 w.params).In h₀ → News h₀ L s.heap ((nat_lit 1103, op) :: news) → (∀ q ∈ news, q.1 ≠ nat_lit 1103) → KidsOk op → GB s.gens → Top qv (looseW qv loose) mean mg mb h₀ → RetG h₀ L m news s Q P →
      wpAny (model PW w) (ktrTop dp un gd cn ⟨.function, nm, ig, ic, more⟩ L a ccd cl outer) (call (.ref f) vs) Q E s
section
variable {prog : Program} {w : World} {A : Around} {E : Value → Shared → Prop} {s : Shared} {h₀ : Heap} {L : Addr} {m : Str → Option Value}
theorem code_defA {K : Frag} {p : Program} {loose : List Str} {mean : ExcName → Option Value} {mg mb : Str → Option Value} {R : Result → Shared → Prop} {name qual : Str} {params : Arguments} {body : List Stmt} {scope : Scope} {dV kV doc pm cdv ct oc : Value} {an od : Option Addr} {osl : Array (Option Value)} {f : Addr} {args : Args} {binds : List (Str × Value)}
    (F : Fr h₀ L s.heap m) (X₀ : K.In h₀) (T : Top p loose mean mg mb h₀)
    (ho : K.lookup f = some ⟨oc, od, .func (fnOf name qual params body scope dV kV doc pm an cdv ct), osl⟩) (hcd : codeIn K cdv qual = true) (hroom : A.depth < recursionLimit)
    (hbind : BindsTo s (fnOf name qual params body scope dV kV doc pm an cdv ct) args binds) (hloc : ∀ y ∈ binds, scope.names.lookup y.1 = some .local)
    (h : ∀ L' h₁, Fr h₀ L' h₁ (fun y => binds.reverse.lookup y) → News h₀ L' h₁ [] → (∀ b o, s.heap.get? b = some o → h₁.get? b = some o) →
      wpAny (model prog w) (A.deeper (envOf qual scope L' f cdv)) (execs body (envOf qual scope L' f cdv))
        (fun fl s' => R (.ok (.ret (match fl with | .ret v => v | _ => .none))) s')
        (fun e s' => wpAny (model prog w) (A.deeper (envOf qual scope L' f cdv)) («leaving» (envOf qual scope L' f cdv) e) (fun _ s'' => R (.error e) s'') (fun e' s'' => R (.error e') s'') s')
        { s with heap := h₁, toks := s.toks + binds.length })
    (hco : scope.isCoroutine = false) (hgen : scope.isGenerator = false) (hk : scope.kind = .function)
    (hcell : ∀ x ∈ scope.names, x.2 ≠ .cell) : codeAny (model prog w) A (.call (.ref f) args) R s := by
  refine codeAny_call_def (fd := fnX name qual params body scope [] dV kV doc pm an cdv ct) (body := body) (binds := binds) hroom ((X₀.keeps F.keep) _ _ ho) rfl (T.nolimit.keeps F.keep) (codeRec_of (X₀.keeps F.keep) hcd) rfl hbind hcell hloc (fun h₁ hns hk₁ => ?_) hco hgen hk
  exact h s.heap.objs.size h₁ ⟨hns, fun b o e => hk₁ b o (F.keep b o e), Nat.le_trans F.above (Nat.le_of_lt F.ns.lt)⟩ News.nil hk₁
end
theorem bev {w : World} {A : Around} {E Q : Value → Shared → Prop} {s : Shared} {h₀ : Heap} {L : Addr} {m mg mb : Str → Option Value} {mean : ExcName → Option Value} {k : Int} {t : Tok} (hh : A.handled = none) (hd : A.depth < recursionLimit) (hu : A.units ≤ 60) (F : Fr h₀ L s.heap m) (X : (fr.heap_1 w.params).In h₀) (T : Top qv (looseW qv loose) mean mg mb h₀)
    (hQ : ∀ h' tk, (∀ b o, s.heap.get? b = some o → h'.get? b = some o) → Q (.int k t) { s with heap := h', toks := tk }) : wpAny (model PW w) A (call (.ref (nat_lit 77)) [.int k t]) Q E s := by
  refine wpAny_call ?_
  k_dflt (refine' code_defA F X T ?k6 ?k7 ?k8 ?k9 ?kB ?_ ?c2 ?c3 ?c4 ?c5; (case k6 => k_is); (case k7 => k_is); (case k8 => exact hd); (case k9 => exact BindsTo.of_eq rfl); (case c5 => decide); (case kB => exact locs rfl); (case c2 => exact rfl); (case c3 => exact rfl); (case c4 => exact rfl); k_whole; intro L' h' F' N' K'; (try dsimp only at F' ⊢); (try k_fold))
  clear F
  k_steps
  all_goals first | k_dflt (exact hQ _ _ (by assumption))
end Mine
end -- K0
section -- K1
open PySem PySem.W PySem.W.X PyProof.Rows PySem.Calls
set_option maxHeartbeats 800000
namespace Mine
theorem bits_and (k : UInt8) : (Builtin.Int.intBits (Builtin.bitAnd (k.toNat : Int) 127) : Int) ≤ 8 := by
  have h : ∀ n : Fin 256, (Builtin.Int.intBits (Builtin.bitAnd ((n.val : Nat) : Int) 127) : Int) ≤ 8 := by decide +kernel
  exact h ⟨k.toNat, k.toNat_lt⟩
theorem shl_K {prog : Program} {w : World} {A : Around} {Q E : Value → Shared → Prop} {s : Shared} {k : UInt8} {n : Int} {t u : Tok} (hn : 0 ≤ n) (hm : n ≤ 57) (h : Q (.int (Builtin.bitAnd (k.toNat : Int) 127 * 2 ^ n.toNat) s.toks) { s with toks := s.toks + 1 }) :
    wpAny (model prog w) A (binaryOp .LShift (.int (Builtin.bitAnd (k.toNat : Int) 127) t) (.int n u)) Q E s :=
  lshift_int hn (by have := bits_and k; omega) h
theorem genIn_of {g h₁ h' : Heap} {L : Addr} {m : Str → Option Value} {led : List (Addr × Obj)} {lim : Nat} {s s₁ : Shared} {b : Array UInt8} {t : Tok} (F : Fr g L h₁ m) (N : News g L h₁ led) (hk : ∀ b o, h₁.get? b = some o → h'.get? b = some o)
    (hen : IsEnum h' (h₁.objs.size + 1) h₁.objs.size 0 .none) (hit : KBw.IsBytesIter h' h₁.objs.size b t 0) (hb : b.size ≤ lim) (hh : s₁.heap = h') (hg : s₁.gens = s.gens) (ho : s₁.os = s.os) : GenIn g L m led lim s (.ref (h₁.objs.size + 1)) s₁ := by
  refine ⟨h₁.objs.size, b, t, rfl, ?_, ?_, ?_, ?_, F.ns.lt, fun q hq => Heap.lt_size (N q hq).1, hb, hg, ho⟩
  · rw [hh]; exact F.keeps hk
  · rw [hh]; exact fun q hq => ⟨hk _ _ (N q hq).1, (N q hq).2⟩
  · rw [hh]; exact hen
  · rw [hh]; exact hit
theorem picked_le {b : Array UInt8} {ks ks' : List Int} {n : Nat} (h : KBw.bInts b = ks') (hs : ∃ k, ks' = ks.take k) (hk : ks.length ≤ n) : b.size ≤ n := by
  obtain ⟨k, rfl⟩ := hs
  rw [← KBw.ints_length, h]
  exact Nat.le_trans (List.length_take_le' _ _) hk
local macro_rules | `(tactic| wtm_at "z call type:enumerate") => `(tactic| (k_here; (with_reducible show wpAny _ _ (call (Value.type "enumerate") [Value.bytes _ _]) _ _ _); k_dflt (refine call_enumB ?_); intro h' hen' hit' hz' hk'))
local macro_rules | `(tactic| wtm_at "z binaryOp LShift int int") => `(tactic| ((with_reducible show wpAny _ _ (binaryOp Operator.LShift (Value.int (Builtin.bitAnd _ _) _) _) _ _ _); k_dflt (refine shl_K (by omega) (by omega) ?_)))
local macro_rules | `(tactic| wtm_at "z call builtin:sum") => `(tactic| (k_here; (with_reducible show wpAny _ _ (call (Value.builtin "sum") [Value.ref _]) _ _ _); (rename GenB _ _ _ _ _ _ _ _ => gX); k_dflt (refine' sum_K ?F ?N ?G ?a ?b ?c gX ?_; (case F => k_asm); (case N => k_asm); (case G => assumption); (case a => assumption); (case b => assumption); (case c => assumption)); clear gX; intro k' t' s' F' N' G' os'))
local macro_rules | `(tactic| wtm_at "z eval Name") => `(tactic| ((with_reducible show wpAny _ _ (eval (Expr.Name _ _) (genEnv _ _ _ _ _ _)) _ _ _); k_dflt (first
  | (refine' nameG_K ?k0 ?k1 ?k2 ?k3 ?_ ?k4 ?k5 ?k6 ?k7; (case k0 => k_asm); (case k4 => rfl); (case k5 => rfl); (case k6 => rfl); (case k7 => decide); (case k1 => k_asm); (case k2 => k_asm); (case k3 => k_is); k_whole)
  | (refine' ldG ?k0 ?k1 ?_ ?k2 ?k3 ?k4; (case k0 => exact Fr.ns (by k_asm)); (case k1 => with_reducible assumption); (case k2 => rfl); (case k3 => rfl); (case k4 => decide); k_whole))))
local macro_rules | `(tactic| wtm_at "z call ref") => `(tactic| ((with_reducible show wpAny _ _ (call (Value.ref (nat_lit 77)) [Value.int _ _]) _ _ _); k_dflt (refine' bev (by assumption) ?hd ?hu ?k1 ?k2 ?k3 ?_; (case hd => assumption); (case hu => assumption); (case k1 => k_asm); (case k2 => k_asm); (case k3 => k_asm); k_whole; intro h' tk' kp'; k_dflt (have F' := Fr.keeps (by assumption) kp'))))
theorem c_key (w : World) (c : Array UInt8) (ks : List Int) (hc : KBw.bInts c = ks) (hks : ks.length ≤ 8) (t1 : Tok) : CtK 305 16 w (nat_lit 1108) [.bytes c t1] (fun v => ∃ k t, v = .int k t) := by
  unfold CtK
  intro mean mg mb gd cn nm ig ic more a ccd cl outer A₀ base h₀ L m news op s Q E B F X N hne hk G T hret
  k_steps
  refine gen_K (lim := 8) (K := fr.heap_1 w.params) (op := op) (P := nat_lit 1103) (c := nat_lit 1107) ?val (by k_asm) (by k_asm) hne (by k_asm) (by k_asm) (by k_asm) (by rfl) (kid1107 _) hk (by rfl) (by rfl) ?it ?elt ?q (by rfl) (by rfl) (by decide) (by rfl) (by rfl) (by rfl) (by decide) (by rfl) (by k_room) (by intro _; rfl)
  case val => exact fun i k => Builtin.bitAnd (k.toNat : Int) 127 * 2 ^ ((57 : Int) - (i : Int) * 8).toNat
  case it =>
    k_steps
    (rename KBw.bInts (KBy.picked _ _ _) = _ => kk')
    (rename IsEnum _ _ _ _ _ => ke')
    (rename KBw.IsBytesIter _ _ _ _ _ => ki')
    k_dflt (exact genIn_of (by k_asm) (by k_asm) (by assumption) ke' ki' (picked_le kk' ⟨_, rfl⟩ hks) rfl rfl rfl)
  case elt =>
    clear hret F N X T B hne hk G
    intro C code A' E' i k ui uk t m₂ hi hA hD hU F₂ hmi hmk
    have hdA : A'.depth < recursionLimit := Nat.lt_of_le_of_lt hD (Nat.le_of_ble_eq_true rfl)
    have huA : A'.units ≤ 60 := Nat.le_trans hU (Nat.le_of_ble_eq_true rfl)
    k_steps
    all_goals k_dflt (exact ⟨_, _, rfl, by assumption⟩)
  case q =>
    clear F N X T B hk G
    intro a' op' s' Kb n' val' hk' F₅ N₅ G₅ os₅ hLK hNK hPK X₅
    k_steps
    (rename GB _ => gB'); (rename (_ : Shared).os = _ => oS')
    k_dflt (refine leaveK_ (by k_asm) (by k_asm) ?_)
    intro kF kN
    k_dflt (exact hret _ _ _ ⟨_, _, rfl⟩ hk' kF kN gB' (oS'.trans os₅))
end Mine
end -- K1
section -- Tk
open PySem PySem.W PySem.W.X PyProof.Rows PySem.Calls
namespace Mine
abbrev CtTK (w : World) (f : Addr) (vs : List Value) (news : List (Addr × Obj)) (op : Obj) (P : Value → Prop) : Prop :=
  ∀ (mean : ExcName → Option Value) (mg mb : Str → Option Value) (gd : Option (List Code)) (cn : Str) (nm : List (Str × NameKind)) (ig ic : Bool) (more : List (Str × Const)) (a : Addr) (ccd : Value) (cl : List (Str × Addr)) (A₀ : Around) (base h₀ : Heap) (L : Addr) (m : Str → Option Value) (s : Shared) (Q E : Value → Shared → Prop),
    Below A₀ base [] h₀ → Fr h₀ L s.heap m → (fr.heap_1 w.params).In h₀ → News h₀ L s.heap ((nat_lit 1103, op) :: news) → (∀ q ∈ news, q.1 ≠ nat_lit 1103) → KidsOk op → GB s.gens → Top qv (looseW qv loose) mean mg mb h₀ → (fr.heap_1 w.params).In base → Top qv (looseW qv loose) mean mg mb base → RetG h₀ L m news s Q P →
      wpAny (model PW w) (ktrTop 302 7 gd cn ⟨.function, nm, ig, ic, more⟩ L a ccd cl []) (call (.ref f) vs) Q E s
theorem News.sub {h₀ h : Heap} {L : Addr} {news news' : List (Addr × Obj)} (N : News h₀ L h news') (hs : ∀ p ∈ news, p ∈ news') : News h₀ L h news := fun p hp => N p (hs p hp)
end Mine
end -- Tk
section -- Tj0
open PySem PySem.W PySem.W.X PyProof.Rows PySem.Calls
namespace Mine
theorem of_T {w : World} {f : Addr} {vs : List Value} {news : List (Addr × Obj)} {op : Obj} {P P' : Value → Prop} (h : ∀ v, P v → P' v) (c : CtT w f vs ((nat_lit 1103, op) :: news) P) : CtTK w f vs news op P' := by
  intro mean mg mb gd cn nm ig ic more a ccd cl A₀ base h₀ L m s Q E B F X N hne hk G T XB TB hret
  exact c mean mg mb gd cn nm ig ic more a ccd cl A₀ base h₀ L m s Q E B F X N T XB TB (fun v h' tk' pv F' N' => hret v _ op (h v pv) hk F' N' G rfl)
theorem of_TK {w : World} {f : Addr} {vs : List Value} {news : List (Addr × Obj)} {op : Obj} {P P' : Value → Prop} (h : ∀ v, P v → P' v) (c : CtTK w f vs news op P) : CtTK w f vs news op P' := by
  intro mean mg mb gd cn nm ig ic more a ccd cl A₀ base h₀ L m s Q E B F X N hne hk G T XB TB hret
  exact c mean mg mb gd cn nm ig ic more a ccd cl A₀ base h₀ L m s Q E B F X N hne hk G T XB TB (fun v s' op' pv => hret v s' op' (h v pv))
theorem nz_b {b : Array UInt8} (h : ∀ c ∈ b.toList, c ≠ 0) : (0 : Int) ∉ KBw.bInts b := by
  intro q
  obtain ⟨c, hc, e⟩ := List.mem_map.1 q
  refine h c hc (UInt8.toNat_inj.1 ?_)
  have e' : c.toNat = 0 := by exact_mod_cast e
  rw [e']; rfl
theorem z_b {b : Array UInt8} (h : (0 : UInt8) ∈ b.toList) : (0 : Int) ∈ KBw.bInts b := List.mem_map.2 ⟨0, h, rfl⟩
theorem nz_x {x : Str} (h : ∀ c ∈ x.cps.toList, 1 ≤ c ∧ c < 128) : (0 : Int) ∉ cInts x := by
  intro q
  obtain ⟨c, hc, e⟩ := List.mem_map.1 q
  have := h c hc
  have e' : c = 0 := by exact_mod_cast e
  omega
theorem sb_no {k : Int} (h1 : SgnI k) (h2 : BadI k) : False := by unfold SgnI at h1; unfold BadI at h2; omega
theorem sign2 {k1 k2 : List Int} {n : Int} (hs : ((k1 ++ [n] ++ k2).length : Int) = 2) (hn : BadI n) (h1 : ∀ k ∈ k1, SgnI k) (h2 : ∀ k ∈ k2, SgnI k) :
    ∃ a b, k1 ++ [n] ++ k2 = [a, b] ∧ (SgnI a ∨ BadI a) ∧ (SgnI a → BadI b) := by
  have hl : k1.length + k2.length = 1 := by simp at hs; omega
  match k1, k2, hl with
  | [], [b], _ => exact ⟨n, b, rfl, .inr hn, fun q => (sb_no q hn).elim⟩
  | [a], [], _ => exact ⟨a, n, rfl, .inl (h1 a (by simp)), fun _ => hn⟩
  | _ :: _ :: _, _, hl => simp only [List.length_cons] at hl; omega
theorem sign4 {k1 k2 : List Int} {n : Int} (hs : ((k1 ++ [n] ++ k2).length : Int) = 4) (hn : BadI n) (h1 : ∀ k ∈ k1, SgnI k) (h2 : ∀ k ∈ k2, SgnI k) :
    ∃ a b c d, k1 ++ [n] ++ k2 = [a, b, c, d] ∧ (SgnI a ∨ BadI a) ∧ (SgnI b ∨ BadI b) ∧ (SgnI c ∨ BadI c) ∧ (SgnI a → SgnI b → SgnI c → BadI d) := by
  have hl : k1.length + k2.length = 3 := by simp at hs; omega
  match k1, k2, hl with
  | [], [b, c, d], _ => exact ⟨n, b, c, d, rfl, .inr hn, .inl (h2 b (by simp)), .inl (h2 c (by simp)), fun q => (sb_no q hn).elim⟩
  | [a], [c, d], _ => exact ⟨a, n, c, d, rfl, .inl (h1 a (by simp)), .inr hn, .inl (h2 c (by simp)), fun _ q => (sb_no q hn).elim⟩
  | [a, b], [d], _ => exact ⟨a, b, n, d, rfl, .inl (h1 a (by simp)), .inl (h1 b (by simp)), .inr hn, fun _ _ q => (sb_no q hn).elim⟩
  | [a, b, c], [], _ => exact ⟨a, b, c, n, rfl, .inl (h1 a (by simp)), .inl (h1 b (by simp)), .inl (h1 c (by simp)), fun _ _ _ => hn⟩
  | _ :: _ :: _ :: _ :: _, _, hl => simp only [List.length_cons] at hl; omega
theorem good2 {ks : List Int} (hs : (ks.length : Int) = 2) (hg : ∀ k ∈ ks, SgnI k) : ∃ a b, ks = [a, b] ∧ SgnI a ∧ SgnI b := by
  have hl : ks.length = 2 := by omega
  clear hs
  match ks, hl, hg with
  | [a, b], _, hg => exact ⟨a, b, rfl, hg a (by simp), hg b (by simp)⟩
theorem good4 {ks : List Int} (hs : (ks.length : Int) = 4) (hg : ∀ k ∈ ks, SgnI k) : ∃ a b c d, ks = [a, b, c, d] ∧ SgnI a ∧ SgnI b ∧ SgnI c ∧ SgnI d := by
  have hl : ks.length = 4 := by omega
  clear hs
  match ks, hl, hg with
  | [a, b, c, d], _, hg => exact ⟨a, b, c, d, rfl, hg a (by simp), hg b (by simp), hg c (by simp), hg d (by simp)⟩
theorem other_of {sec : Value} {ex news : List (Addr × Obj)} (S : SecP 2 sec ex) (hex : ∀ p ∈ ex, p ∈ news) : OtherN news sec := fun h₀ L h N => otherN_of S h₀ L h fun p hp => N p (hex p hp)
end Mine
end -- Tj0
section -- Vq
open PySem PySem.W PySem.W.X PyProof.Rows PySem.Calls
namespace Mine
/-- the secret, by kind, as the walk wants it -/
inductive SecQ (led : List (Addr × Obj)) : Int → Value → Prop
  | octets (c : Array UInt8) (u : Tok) (ks : List Int) (hc : KBw.bInts c = ks) (hz : (0 : Int) ∉ ks) (hks : ks.length ≤ 8) : SecQ led 0 (.bytes c u)
  | nought (c : Array UInt8) (u : Tok) (ks : List Int) (hc : KBw.bInts c = ks) (hz : (0 : Int) ∈ ks) : SecQ led 1 (.bytes c u)
  | other (v : Value) (ho : OtherN led v) : SecQ led 2 v
  | text (y : Str) (u : Tok) (hy : ∀ c ∈ y.cps.toList, c < 128) (hz : (0 : Int) ∉ cInts y) (hyl : y.length ≤ 8) : SecQ led 3 (.str y u)
theorem secQ_of {kind : Int} {sec : Value} {ex led : List (Addr × Obj)} (S : SecP kind sec ex) (hex : ∀ p ∈ ex, p ∈ led) : SecQ led kind sec := by
  cases S with
  | octets c u h hl => exact .octets c u _ rfl (nz_b h) (by rw [KBw.ints_length]; exact hl)
  | nought c u hz => exact .nought c u _ rfl (z_b hz)
  | text y u h hl => exact .text y u (fun c hc => (h c hc).2) (nz_x h) hl
  | none => exact .other _ (other_of .none hex)
  | int k u => exact .other _ (other_of (.int k u) hex)
  | list a vs n => exact .other _ (other_of (.list a vs n) hex)
  | tuple a vs n => exact .other _ (other_of (.tuple a vs n) hex)
/-- the salt of the two block ways -/
inductive SaltQ2 : Int → Value → Prop
  | right (b : Array UInt8) (t : Tok) (k0 k1 : Int) (hb : KBw.bInts b = [k0, k1]) (h0 : SgnI k0) (h1 : SgnI k1) : SaltQ2 0 (.bytes b t)
  | long (b : Array UInt8) (t : Tok) (ks : List Int) (hb : KBw.bInts b = ks) (hs : (ks.length : Int) ≠ 2) (hl : ks.length ≤ 8) : SaltQ2 1 (.bytes b t)
  | text (x : Str) (t : Tok) (hs : (x.length : Int) = 2) : SaltQ2 2 (.str x t)
  | sign (b : Array UInt8) (t : Tok) (k0 k1 : Int) (hb : KBw.bInts b = [k0, k1]) (h0 : SgnI k0 ∨ BadI k0) (h1 : SgnI k0 → BadI k1) : SaltQ2 3 (.bytes b t)
  | both (x : Str) (t : Tok) (hs : (x.length : Int) ≠ 2) (hl : x.length ≤ 8) : SaltQ2 4 (.str x t)
theorem saltQ2_of {fault : Int} {sal : Value} (B : SaltB 2 fault sal) : SaltQ2 fault sal := by
  cases B with
  | right b t ks hb hs hg => obtain ⟨a, b', rfl, g1, g2⟩ := good2 hs hg; exact .right b t a b' hb g1 g2
  | long b t ks hb hs hl => exact .long b t ks hb hs hl
  | text x t hs => exact .text x t hs
  | sign b t k1 k2 n hb hs hn h1 h2 => obtain ⟨a, b', e, g1, g2⟩ := sign2 hs hn h1 h2; exact .sign b t a b' (hb.trans e) g1 g2
  | both x t hs hl => exact .both x t hs hl
inductive SaltQ4 : Int → Value → Prop
  | right (b : Array UInt8) (t : Tok) (k0 k1 k2 k3 : Int) (hb : KBw.bInts b = [k0, k1, k2, k3]) (h0 : SgnI k0) (h1 : SgnI k1) (h2 : SgnI k2) (h3 : SgnI k3) : SaltQ4 0 (.bytes b t)
  | long (b : Array UInt8) (t : Tok) (ks : List Int) (hb : KBw.bInts b = ks) (hs : (ks.length : Int) ≠ 4) (hl : ks.length ≤ 8) : SaltQ4 1 (.bytes b t)
  | text (k : Int) (hk : k = 2 ∨ k = 4) (x : Str) (t : Tok) : SaltQ4 k (.str x t)
  | sign (b : Array UInt8) (t : Tok) (k0 k1 k2 k3 : Int) (hb : KBw.bInts b = [k0, k1, k2, k3]) (h0 : SgnI k0 ∨ BadI k0) (h1 : SgnI k1 ∨ BadI k1) (h2 : SgnI k2 ∨ BadI k2) (h3 : SgnI k0 → SgnI k1 → SgnI k2 → BadI k3) : SaltQ4 3 (.bytes b t)
theorem saltQ4_of {fault : Int} {sal : Value} (B : SaltB 4 fault sal) : SaltQ4 fault sal := by
  cases B with
  | right b t ks hb hs hg => obtain ⟨k0, k1, k2, k3, rfl, g0, g1, g2, g3⟩ := good4 hs hg; exact .right b t k0 k1 k2 k3 hb g0 g1 g2 g3
  | long b t ks hb hs hl => exact .long b t ks hb hs hl
  | text x t hs => exact .text 2 (.inl rfl) x t
  | sign b t k1 k2 n hb hs hn h1 h2 => obtain ⟨a, b', c, d, e, g1, g2, g3, g4⟩ := sign4 hs hn h1 h2; exact .sign b t a b' c d (hb.trans e) g1 g2 g3 g4
  | both x t hs hl => exact .text 4 (.inr rfl) x t
end Mine
end -- Vq
section -- Ta
open PySem PySem.W PySem.W.X PyProof.Rows PySem.Calls
set_option maxHeartbeats 2000000
namespace Mine

def ToldAt (P : Params) (qual : Str) (scope : Scope) (cdv : Value) (hs : List ExceptHandler) : Prop :=
  ∃ oc od osl name params body els fin pos r dV kV doc pm an ct, (fr.heap_1 P).lookup (nat_lit 1280) = some ⟨oc, od, .func (fnOf name qual params [.Try body hs els fin pos, r] scope dV kV doc pm an cdv ct), osl⟩
/-- what is known where a clause of _law_told has answered -/
abbrev Answer (w : World) (mean : ExcName → Option Value) (mg mb : Str → Option Value) (A : Around) (base : Heap) (ev : Env) (g₀ : Heap) (L' : Addr) (m : Str → Option Value) (news : List (Addr × Obj)) (s : Shared) (x : Str) (Q : Flow → Shared → Prop) : Prop :=
  ∀ (h' g : Heap) (tk tk' : Nat), KtsTurn (List.filterMap (fun x => x.frame) [ev]) g₀ g → Fr g L' h' m → News g L' h' news → Below A base [ev] g → (fr.heap_1 w.params).In g → Top qv (looseW qv loose) mean mg mb g → KtsDicts (List.filterMap (fun x => x.frame) [ev]) g →
    Q (.ret (.str x tk)) { s with heap := h', toks := tk' }
abbrev TailOf (w : World) (cls : Value) (x : Str) : Prop :=
  ∀ (qual : Str) (scope : Scope) (cdv : Value) (hs : List ExceptHandler), ToldAt w.params qual scope cdv hs → ∀ (mean : ExcName → Option Value) (mg mb : Str → Option Value) (gd : Option (List Code)) (cn : Str) (nm : List (Str × NameKind)) (ig ic : Bool) (more : List (Str × Const)) (L a : Addr) (ccd : Value) (cl : List (Str × Addr)) (base g₀ g G : Heap) (L' e : Addr) (m : Str → Option Value) (news : List (Addr × Obj)) (s : Shared) (Q : Flow → Shared → Prop) (E : Value → Shared → Prop),
    RaisedSN base G [envOf qual scope L' (nat_lit 1280) cdv, envX cn ⟨.function, nm, ig, ic, more⟩ L a ccd cl] e cls news s.heap → Fr g L' G m → Below (ktrTop 302 7 gd cn ⟨.function, nm, ig, ic, more⟩ L a ccd cl []) base [envX cn ⟨.function, nm, ig, ic, more⟩ L a ccd cl] g → G.UpToSlots s.heap → (fr.heap_1 w.params).In base → Top qv (looseW qv loose) mean mg mb base →
    KtsDicts (List.filterMap (fun x => x.frame) [envX cn ⟨.function, nm, ig, ic, more⟩ L a ccd cl]) g → KtsTurn (List.filterMap (fun x => x.frame) [envX cn ⟨.function, nm, ig, ic, more⟩ L a ccd cl]) g₀ g →
    Answer w mean mg mb (ktrTop 302 7 gd cn ⟨.function, nm, ig, ic, more⟩ L a ccd cl []) base (envX cn ⟨.function, nm, ig, ic, more⟩ L a ccd cl) g₀ L' m news s x Q →
    wpAny (model PW w) ((ktrTop 302 7 gd cn ⟨.function, nm, ig, ic, more⟩ L a ccd cl []).deeper (envOf qual scope L' (nat_lit 1280) cdv)) (noteFrame (.ref e) (envOf qual scope L' (nat_lit 1280) cdv))
      (fun _ s₂ => wpAny (model PW w) ((ktrTop 302 7 gd cn ⟨.function, nm, ig, ic, more⟩ L a ccd cl []).deeper (envOf qual scope L' (nat_lit 1280) cdv)) (setFlight (.ref e) none)
        (fun _ s₃ => wpAny (model PW w) ((ktrTop 302 7 gd cn ⟨.function, nm, ig, ic, more⟩ L a ccd cl []).deeper (envOf qual scope L' (nat_lit 1280) cdv)) (handleBy (.ref e) (envOf qual scope L' (nat_lit 1280) cdv) hs) Q
          (fun e s' => wpAny (model PW w) ((ktrTop 302 7 gd cn ⟨.function, nm, ig, ic, more⟩ L a ccd cl []).deeper (envOf qual scope L' (nat_lit 1280) cdv)) («leaving» (envOf qual scope L' (nat_lit 1280) cdv) e) (fun _ s'' => E e s'') (fun e' s'' => E e' s'') s') s₃)
        (fun e s' => wpAny (model PW w) ((ktrTop 302 7 gd cn ⟨.function, nm, ig, ic, more⟩ L a ccd cl []).deeper (envOf qual scope L' (nat_lit 1280) cdv)) («leaving» (envOf qual scope L' (nat_lit 1280) cdv) e) (fun _ s'' => E e s'') (fun e' s'' => E e' s'') s') s₂)
      (fun e s' => wpAny (model PW w) ((ktrTop 302 7 gd cn ⟨.function, nm, ig, ic, more⟩ L a ccd cl []).deeper (envOf qual scope L' (nat_lit 1280) cdv)) («leaving» (envOf qual scope L' (nat_lit 1280) cdv) e) (fun _ s'' => E e s'') (fun e' s'' => E e' s'') s') s
section
local macro_rules | `(tactic| wtm_at "z handleBy ref") => `(tactic| (k_here; (with_reducible rename KtsDicts _ _ => kdX); first
  | (k_dflt (refine' pass_SN ?R ?F ?K ?U ?XB ?TB ?D ?T ?_; (case R => assumption); (case F => assumption); (case K => assumption); (case U => assumption); (case XB => assumption); (case TB => assumption); (case D => assumption); (case T => kts_test); k_whole); intro h' R' U'; (try dsimp only at R' U' ⊢))
  | (k_dflt (refine' hit_SN0 ?R ?F ?K ?U ?XB ?TB ?D ?T0 ?T ?_; (case R => assumption); (case F => assumption); (case K => assumption); (case U => assumption); (case XB => assumption); (case TB => assumption); (case D => assumption); (case T0 => first | assumption | exact KtsTurn.refl); (case T => kts_test); k_whole); intro h' g' T' F' N' K' X' P' D'; (try k_lift K'); (try k_sweep))))
theorem tail_PV (w : World) : TailOf w (.ref (nat_lit 38)) (Str.ofString "PasswordValueError") := by
  unfold TailOf
  intro qual scope cdv hs hb
  obtain ⟨oc, od, osl, name, params, body, els, fin, pos, r, dV, kV, doc, pm, an, ct, hb⟩ := hb
  rw [(by k_is : (fr.heap_1 w.params).lookup (nat_lit 1280) = some _)] at hb
  cases hb
  intro mean mg mb gd cn nm ig ic more L a ccd cl base g₀ g G L' e m news s Q E R F B U XB TB D T0 hQ
  k_steps
  all_goals first | exact hQ _ _ _ _ (by assumption) (by assumption) (by assumption) (by assumption) (by assumption) (by assumption) (by assumption)
theorem tail_VE (w : World) : TailOf w (.type "ValueError") (Str.ofString "ValueError") := by
  unfold TailOf
  intro qual scope cdv hs hb
  obtain ⟨oc, od, osl, name, params, body, els, fin, pos, r, dV, kV, doc, pm, an, ct, hb⟩ := hb
  rw [(by k_is : (fr.heap_1 w.params).lookup (nat_lit 1280) = some _)] at hb
  cases hb
  intro mean mg mb gd cn nm ig ic more L a ccd cl base g₀ g G L' e m news s Q E R F B U XB TB D T0 hQ
  k_steps
  all_goals first | exact hQ _ _ _ _ (by assumption) (by assumption) (by assumption) (by assumption) (by assumption) (by assumption) (by assumption)
theorem tail_TE (w : World) : TailOf w (.type "TypeError") (Str.ofString "TypeError") := by
  unfold TailOf
  intro qual scope cdv hs hb
  obtain ⟨oc, od, osl, name, params, body, els, fin, pos, r, dV, kV, doc, pm, an, ct, hb⟩ := hb
  rw [(by k_is : (fr.heap_1 w.params).lookup (nat_lit 1280) = some _)] at hb
  cases hb
  intro mean mg mb gd cn nm ig ic more L a ccd cl base g₀ g G L' e m news s Q E R F B U XB TB D T0 hQ
  k_steps
  all_goals first | exact hQ _ _ _ _ (by assumption) (by assumption) (by assumption) (by assumption) (by assumption) (by assumption) (by assumption)
theorem tail_AE (w : World) : TailOf w (.type "AssertionError") (Str.ofString "AssertionError") := by
  unfold TailOf
  intro qual scope cdv hs hb
  obtain ⟨oc, od, osl, name, params, body, els, fin, pos, r, dV, kV, doc, pm, an, ct, hb⟩ := hb
  rw [(by k_is : (fr.heap_1 w.params).lookup (nat_lit 1280) = some _)] at hb
  cases hb
  intro mean mg mb gd cn nm ig ic more L a ccd cl base g₀ g G L' e m news s Q E R F B U XB TB D T0 hQ
  k_steps
  all_goals first | exact hQ _ _ _ _ (by assumption) (by assumption) (by assumption) (by assumption) (by assumption) (by assumption) (by assumption)
theorem tail_LE (w : World) : TailOf w (.type "LookupError") (Str.ofString "hashed") := by
  unfold TailOf
  intro qual scope cdv hs hb
  obtain ⟨oc, od, osl, name, params, body, els, fin, pos, r, dV, kV, doc, pm, an, ct, hb⟩ := hb
  rw [(by k_is : (fr.heap_1 w.params).lookup (nat_lit 1280) = some _)] at hb
  cases hb
  intro mean mg mb gd cn nm ig ic more L a ccd cl base g₀ g G L' e m news s Q E R F B U XB TB D T0 hQ
  k_steps
  all_goals first | exact hQ _ _ _ _ (by assumption) (by assumption) (by assumption) (by assumption) (by assumption) (by assumption) (by assumption)
theorem tail_UE (w : World) : TailOf w (.type "UnicodeEncodeError") (Str.ofString "ValueError") := by
  unfold TailOf
  intro qual scope cdv hs hb
  obtain ⟨oc, od, osl, name, params, body, els, fin, pos, r, dV, kV, doc, pm, an, ct, hb⟩ := hb
  rw [(by k_is : (fr.heap_1 w.params).lookup (nat_lit 1280) = some _)] at hb
  cases hb
  intro mean mg mb gd cn nm ig ic more L a ccd cl base g₀ g G L' e m news s Q E R F B U XB TB D T0 hQ
  k_steps
  all_goals first | exact hQ _ _ _ _ (by assumption) (by assumption) (by assumption) (by assumption) (by assumption) (by assumption) (by assumption)
end
end Mine
end -- Ta
section -- told
set_option maxHeartbeats 2000000
namespace Mine
theorem nf_TE : (Str.ofString "TypeError" ∉ startupNames ∧ Str.ofString "TypeError" ∉ looseW qv loose ∧ Str.ofString "TypeError" ∉ (recsOf qv).map (·.name) ∧ Str.ofString "TypeError" ∉ (litsOf qv).map (·.1) ∧ Str.ofString "TypeError" ∉ (clssOf qv (looseW qv loose)).map (·.name) ∧ Str.ofString "TypeError" ≠ "__name__") := by decide +kernel
theorem nf_VE : (Str.ofString "ValueError" ∉ startupNames ∧ Str.ofString "ValueError" ∉ looseW qv loose ∧ Str.ofString "ValueError" ∉ (recsOf qv).map (·.name) ∧ Str.ofString "ValueError" ∉ (litsOf qv).map (·.1) ∧ Str.ofString "ValueError" ∉ (clssOf qv (looseW qv loose)).map (·.name) ∧ Str.ofString "ValueError" ≠ "__name__") := by decide +kernel
local macro_rules | `(tactic| wtm_at "z convS") => `(tactic| ((with_reducible show wpAny _ _ (convS (Value.type _)) _ _ _); refine convS_tstr ?_))
local macro_rules | `(tactic| wtm_at "z ite") => `(tactic| first | refine beq_yes (by first | omega | (simp only [List.length_cons, List.length_nil]; omega)) ?_ | refine beq_no (by first | omega | (simp only [List.length_cons, List.length_nil]; omega)) ?_ | refine bne_yes (by first | omega | (simp only [List.length_cons, List.length_nil]; omega)) ?_ | refine bne_no (by first | omega | (simp only [List.length_cons, List.length_nil]; omega)) ?_ | refine ite_yes (by omega) ?_ | refine ite_no (by omega) ?_)
local macro_rules | `(tactic| wtm_at "z callWith ref") => `(tactic| (k_here; (with_reducible show wpAny _ _ (callWith _ (Value.ref (nat_lit 647)) _ (backTo _ (starEach (_ :: _) _)) []) _ _ _); k_dflt (refine callWith_boundD (d := nat_lit 320) ?_)))
local macro_rules | `(tactic| wtm_at "z And") => `(tactic| ((with_reducible show (Heap.get? _ _ = some (boundD _)) ∧ _); k_dflt (refine ⟨at647_in (by k_in), ?_⟩); (try dsimp only [List.nil_append, List.cons_append])))
local macro_rules | `(tactic| wtm_at "z call ref") => `(tactic| (k_here; (with_reducible show wpAny _ _ (call (Value.ref (nat_lit 647)) [Value.int _ _]) _ _ _); k_dflt (first | (refine dec_good (by k_in) (by with_reducible assumption) ?_; intro n' t' hn0' hn1') | (refine dec_bad (by k_in) (by with_reducible first | assumption | exact (by assumption : SgnI _ → BadI _) (by with_reducible assumption) | exact (by assumption : SgnI _ → SgnI _ → SgnI _ → BadI _) (by with_reducible assumption) (by with_reducible assumption) (by with_reducible assumption)) (by rfl) ?_) | (refine dec_fork (by k_in) (by with_reducible assumption) (by rfl) ?_ ?_))))
local macro_rules | `(tactic| wtm_at "z subscriptTail") => `(tactic| (k_here; (first | ((with_reducible show wpAny _ _ (subscriptTail _ _ (Value.bytes _ _) (Value.int 0 _)) _ _ _); refine item_0 (by with_reducible assumption) (by k_dflt exact Nat.le_of_ble_eq_true rfl) ?_) | ((with_reducible show wpAny _ _ (subscriptTail _ _ (Value.bytes _ _) (Value.int 1 _)) _ _ _); refine item_1 (by with_reducible assumption) (by k_dflt exact Nat.le_of_ble_eq_true rfl) ?_) | ((with_reducible show wpAny _ _ (subscriptTail _ _ (Value.bytes _ _) (Value.int 2 _)) _ _ _); refine item_2 (by with_reducible assumption) (by k_dflt exact Nat.le_of_ble_eq_true rfl) ?_) | ((with_reducible show wpAny _ _ (subscriptTail _ _ (Value.bytes _ _) (Value.int 3 _)) _ _ _); refine item_3 (by with_reducible assumption) (by k_dflt exact Nat.le_of_ble_eq_true rfl) ?_)); intro _ _))
local macro_rules | `(tactic| wtm_at "z call builtin:isinstance") => `(tactic| (k_here; (with_reducible show wpAny _ _ (call (Value.builtin "isinstance") [_, Value.type "str"]) _ _ _); k_dflt (refine isi_str (OtherN.at (by with_reducible assumption) (by k_asm) (by kcj_all)) ?_); intro _))
local macro_rules | `(tactic| wtm_at "z call builtin:isinstance") => `(tactic| (k_here; (with_reducible show wpAny _ _ (call (Value.builtin "isinstance") [_, Value.type "bytes"]) _ _ _); k_dflt (refine isi_bytes (OtherN.at (by with_reducible assumption) (by k_asm) (by kcj_all)) ?_); intro _))
local macro_rules | `(tactic| wtm_at "z compareOp In") => `(tactic| (k_here; (with_reducible show wpAny _ _ (compareOp CmpOp.In (Value.bytes _ _) (Value.bytes _ _)) _ _ _); k_dflt (first | refine in_yes (by rfl) (by k_asm) (by k_asm) (by with_reducible assumption) (by with_reducible assumption) ?_ | refine in_no (by rfl) (by k_asm) (by k_asm) (by with_reducible assumption) (by with_reducible assumption) ?_); intro h' tk' F' N'))
local macro_rules | `(tactic| wtm_at "z getMethod str") => `(tactic| (k_here; (with_reducible show wpAny _ _ (getMethod (Value.str _ _) (Str.ofString "encode") _) _ _ _); refine enc_method ?_))
local macro_rules | `(tactic| wtm_at "z call builtin:str.encode") => `(tactic| (k_here; (with_reducible show wpAny _ _ (call (Value.builtin "str.encode") [Value.str _ _, Value.str (Str.ofString "utf-8") _]) _ _ _); k_dflt (refine enc_utf8K (by with_reducible assumption) (by (rw [PySem.sizeLine_eq]; omega)) ?_); intro b' t' k' hbi' hbl'))
local macro_rules | `(tactic| wtm_at "z call builtin:str.encode") => `(tactic| (k_here; (with_reducible show wpAny _ _ (call (Value.builtin "str.encode") [Value.str _ _, Value.str (Str.ofString "ascii") _]) _ _ _); k_dflt (refine enc_asciiK (by with_reducible assumption) (by (rw [PySem.sizeLine_eq]; omega)) ?_); intro b' t' k' hbi' hbl'))
local macro_rules | `(tactic| wtm_at "z truthy ref") => `(tactic| (k_here; (with_reducible show wpAny _ _ (truthy (Value.ref _)) _ _ _); k_dflt (refine truthy_cls (K := fr.heap_1 _) (by k_in) (by kernel_rfl) ?_)))
local macro_rules | `(tactic| wtm_at "z noteFrame ref") => `(tactic| (k_here; (rename Heap.NewExc _ _ _ _ => neX); (with_reducible show wpAny _ _ (noteFrame _ _) (fun _ s₂ => wpAny _ _ (setFlight _ none) (fun _ s₃ => wpAny _ _ (handleBy _ _ (ExceptHandler.ExceptHandler (some (Expr.Name ("KeyError" : Str) _)) none _ _ :: _)) _ _ s₃) _ s₂) _ _); k_dflt (refine' caught_hereC (T' := "KeyError") (NewExcC.of neX) ?F ?N ?K ?XB ?TB ?D ?T0 ?ex PyProof.Rows.Boot.«KeyError» ?hn kr_isExc_KeyError kr_notTuple_KeyError ?hs ?_; (case F => k_asm); (case N => k_asm); (case K => k_asm); (case XB => k_asm); (case TB => k_asm); (case D => k_asm); (case T0 => first | assumption | exact KtsTurn.refl); (case hs => kts_sub); (case ex => k_is); (case hn => decide); k_whole); clear neX; intro h' g' T' F' N' K' X' P' D' cX'; (try k_lift K'); (try k_sweep)))
local macro_rules | `(tactic| wtm_at "z exec Raise some none") => `(tactic| (k_here; (with_reducible rename Ctx2 _ _ => cX'); (with_reducible show wpAny _ _ (exec (Stmt.Raise (some (Expr.Call (Expr.Name ("ValueError" : Str) _) (_ :: _) [] _)) none _) _) _ _ _); k_dflt (refine' Raise_in1 PySem.F.excCall_ValueError PySem.F.excRaise_ValueError ?hh ?_; (case hh => rfl))))
local macro_rules | `(tactic| wtm_at "z And") => `(tactic| ((with_reducible show (Ctx2 _ _) ∧ _); k_dflt (refine ⟨by assumption, ?_⟩)))
local macro_rules | `(tactic| wtm_at "z leaving ref") => `(tactic| (k_here; k_dflt (refine' leave_newL ?k1 ?k0 ?k2 ?k3 ?_; (case k0 => k_asm); (case k2 => k_asm); (case k1 => k_asm); (case k3 => k_asm); k_whole; intro h' S' R' U'; (try dsimp only at S' R' U' ⊢))))
local macro_rules | `(tactic| wtm_at "z leaving ref") => `(tactic| (k_here; (rename RaisedSN _ _ _ _ _ _ _ => rsX); (rename KtsTurn _ _ _ => ktT); k_dflt (obtain ⟨_, ktT', F', K'⟩ := turn_fr (by with_reducible assumption) (by with_reducible assumption) ktT); clear ktT; k_dflt (refine' leave_onSN K' F' rsX ?k4 ?_; (case k4 => k_asm); k_whole; clear rsX; intro h' S' R' U'; (try dsimp only at S' R' U' ⊢))))
local macro_rules | `(tactic| wtm_at "z noteFrame ref") => `(tactic| (k_here; (rename RaisedSN _ _ _ _ _ _ _ => rsX); (rename KtsTurn _ _ _ => ktT); k_dflt (obtain ⟨_, ktT', F', K'⟩ := turn_fr (by with_reducible assumption) (by with_reducible assumption) ktT); clear ktT; k_dflt (have D' := KtsDicts.turn (by with_reducible assumption) ktT'); first | kts_caughtN | (k_dflt (refine' kts_lookSN ?R ?F ?K ?U ?D ?_; (case R => k_asm); (case F => k_asm); (case K => k_asm); (case U => k_asm); (case D => k_asm); k_whole); clear rsX; intro h' R' U'; (try dsimp only at R' U' ⊢))))
local macro_rules | `(tactic| wtm_at "z exec Raise some none") => `(tactic| (k_here; (with_reducible show wpAny _ _ (exec (Stmt.Raise (some (Expr.Call (Expr.Name ("NullPasswordError" : Str) _) (_ :: _) [] _)) none _) _) _ _ _); k_dflt (refine Raise_val (K := fr.heap_1 _) (C := nat_lit 38) (T := "ValueError") (by k_in) (by kernel_rfl) (by rfl) ?_)))
local macro_rules | `(tactic| wtm_at "z call ref") => `(tactic| (k_here; (with_reducible show wpAny _ _ (call (Value.ref (nat_lit 70)) _) _ _ _); k_dflt (first | refine c_null1 _ _ _ _ _ _ _ _ _ _ _ _ _ _ _ _ _ _ _ _ _ _ _ (by k_asm) (by k_asm) (by k_in) (by k_asm) (by k_asm) ?_ | refine c_null2 _ _ _ _ _ _ _ _ _ _ _ _ _ _ _ _ _ _ _ _ _ _ _ (by k_asm) (by k_asm) (by k_in) (by k_asm) (by k_asm) ?_ | refine c_null3 _ _ _ _ _ _ _ _ _ _ _ _ _ _ _ _ _ _ _ _ _ _ _ (by k_asm) (by k_asm) (by k_in) (by k_asm) (by k_asm) ?_ | refine c_null4 _ _ _ _ _ _ _ _ _ _ _ _ _ _ _ _ _ _ _ _ _ _ _ (by k_asm) (by k_asm) (by k_in) (by k_asm) (by k_asm) ?_ | refine c_null5 _ _ _ _ _ _ _ _ _ _ _ _ _ _ _ _ _ _ _ _ _ _ _ (by k_asm) (by k_asm) (by k_in) (by k_asm) (by k_asm) ?_); intro h1' h' e' vs' tk' F1' N1' mx' F'))
local macro_rules | `(tactic| wtm_at "z ROwn") => `(tactic| (k_dflt (refine ROwn.intro (by k_in) (by with_reducible assumption) ?_)))
local macro_rules | `(tactic| wtm_at "z leaving ref") => `(tactic| (k_here; (with_reducible show wpAny _ _ («leaving» (envOfC _ _ _ _ _) _) _ _ _); k_dflt (first
  | (refine' leaveX_onS ?k0 ?k1 ?k2 ?k3 ?k4 ?_; (case k3 => k_asm); (case k2 => k_asm); (case k1 => k_asm); (case k4 => k_asm); (case k0 => rfl); k_whole; intro h' S' U')
  | (refine' leaveX_onSN ?k0 ?k1 ?k2 ?k3 ?k4 ?_; (case k3 => k_asm); (case k2 => k_asm); (case k1 => k_asm); (case k4 => k_asm); (case k0 => rfl); k_whole; intro h' S' U')
  | (refine' leaveX_newL ?k0 ?kk ?k1 ?kx ?k2 ?k3 ?_; (case kx => first | assumption | exact NewExcL.of (by with_reducible assumption) | exact NewExcL.of (Heap.MadeExc.newExc (by with_reducible assumption))); (case k2 => k_asm); (case k1 => k_asm); (case k3 => k_asm); (case k0 => rfl); (case kk => rfl); k_whole; intro h' S' U')
  | (refine' leaveX_raiseS ?k0 ?kk ?k1 ?kx ?k2 ?k3 ?_; (case kx => k_asm); (case k2 => k_asm); (case k1 => k_asm); (case k3 => k_asm); (case k0 => rfl); (case kk => rfl); k_whole; intro h' t' S' U')); (try dsimp only at S' U' ⊢)))
local macro_rules | `(tactic| wtm_at "z call builtin:str.encode") => `(tactic| (k_here; (with_reducible show wpAny _ _ (call (Value.builtin "str.encode") [Value.str _ _, Value.str (Str.ofString "ascii") _]) _ _ _); k_dflt (refine enc_bad (by with_reducible assumption) (by with_reducible assumption) (by rfl) ?_)))
local macro_rules | `(tactic| wtm_at "z exec Raise some none") => `(tactic| (k_here; (fail_if_success (with_reducible rename Ctx2 _ _ => cX')); (with_reducible show wpAny _ _ (exec (Stmt.Raise (some (Expr.Call (Expr.Name ("TypeError" : Str) _) (_ :: _) [] _)) none _) _) _ _ _); with_unfolding_all refine Raise_madeB PySem.F.excCall_TypeError PySem.F.excRaise_TypeError rfl (tp_builtin (v := .type "TypeError") (by k_asm) (by k_asm) PyProof.Rows.Boot.«TypeError» ⟨rfl, ?_⟩ nf_TE.1 nf_TE.2.1 nf_TE.2.2.1 nf_TE.2.2.2.1 nf_TE.2.2.2.2.1 nf_TE.2.2.2.2.2)))
local macro_rules | `(tactic| wtm_at "z exec Raise some none") => `(tactic| (k_here; (fail_if_success (with_reducible rename Ctx2 _ _ => cX')); (with_reducible show wpAny _ _ (exec (Stmt.Raise (some (Expr.Call (Expr.Name ("ValueError" : Str) _) (_ :: _) [] _)) none _) _) _ _ _); with_unfolding_all refine Raise_madeB PySem.F.excCall_ValueError PySem.F.excRaise_ValueError rfl (tp_builtin (v := .type "ValueError") (by k_asm) (by k_asm) PyProof.Rows.Boot.«ValueError» ⟨rfl, ?_⟩ nf_VE.1 nf_VE.2.1 nf_VE.2.2.1 nf_VE.2.2.2.1 nf_VE.2.2.2.2.1 nf_VE.2.2.2.2.2)))
local macro_rules | `(tactic| wtm_at "z noteFrame ref") => `(tactic| (k_here; (first | (rename RaisedS _ _ _ _ _ _ _ _ _ => rsX; (replace rsX := RaisedS.toSN rsX); k_dflt (first | (refine' tail_PV _ _ _ _ _ ?hb _ _ _ _ _ _ _ _ _ _ _ _ _ _ _ _ _ _ _ _ _ _ _ _ rsX ?F ?B ?U ?XB ?TB ?D ?T ?_) | (refine' tail_VE _ _ _ _ _ ?hb _ _ _ _ _ _ _ _ _ _ _ _ _ _ _ _ _ _ _ _ _ _ _ _ rsX ?F ?B ?U ?XB ?TB ?D ?T ?_) | (refine' tail_TE _ _ _ _ _ ?hb _ _ _ _ _ _ _ _ _ _ _ _ _ _ _ _ _ _ _ _ _ _ _ _ rsX ?F ?B ?U ?XB ?TB ?D ?T ?_) | (refine' tail_AE _ _ _ _ _ ?hb _ _ _ _ _ _ _ _ _ _ _ _ _ _ _ _ _ _ _ _ _ _ _ _ rsX ?F ?B ?U ?XB ?TB ?D ?T ?_) | (refine' tail_LE _ _ _ _ _ ?hb _ _ _ _ _ _ _ _ _ _ _ _ _ _ _ _ _ _ _ _ _ _ _ _ rsX ?F ?B ?U ?XB ?TB ?D ?T ?_) | (refine' tail_UE _ _ _ _ _ ?hb _ _ _ _ _ _ _ _ _ _ _ _ _ _ _ _ _ _ _ _ _ _ _ _ rsX ?F ?B ?U ?XB ?TB ?D ?T ?_)); k_dflt ((case hb => exact ⟨_, _, _, _, _, _, _, _, _, _, _, _, _, _, _, _, by k_is⟩); (case F => assumption); (case B => assumption); (case U => assumption); (case XB => assumption); (case TB => assumption); (case D => assumption); (case T => first | assumption | exact KtsTurn.refl); k_whole); clear rsX) | (rename RaisedSN _ _ _ _ _ _ _ => rsX; (rename KtsTurn _ _ _ => ktT); k_dflt (obtain ⟨_, ktT', F', K'⟩ := turn_fr (by assumption) (by assumption) ktT); clear ktT; k_dflt (have D' := KtsDicts.turn (by assumption) ktT'); k_dflt (first | (refine' tail_PV _ _ _ _ _ ?hb _ _ _ _ _ _ _ _ _ _ _ _ _ _ _ _ _ _ _ _ _ _ _ _ rsX ?F ?B ?U ?XB ?TB ?D ?T ?_) | (refine' tail_VE _ _ _ _ _ ?hb _ _ _ _ _ _ _ _ _ _ _ _ _ _ _ _ _ _ _ _ _ _ _ _ rsX ?F ?B ?U ?XB ?TB ?D ?T ?_) | (refine' tail_TE _ _ _ _ _ ?hb _ _ _ _ _ _ _ _ _ _ _ _ _ _ _ _ _ _ _ _ _ _ _ _ rsX ?F ?B ?U ?XB ?TB ?D ?T ?_) | (refine' tail_AE _ _ _ _ _ ?hb _ _ _ _ _ _ _ _ _ _ _ _ _ _ _ _ _ _ _ _ _ _ _ _ rsX ?F ?B ?U ?XB ?TB ?D ?T ?_) | (refine' tail_LE _ _ _ _ _ ?hb _ _ _ _ _ _ _ _ _ _ _ _ _ _ _ _ _ _ _ _ _ _ _ _ rsX ?F ?B ?U ?XB ?TB ?D ?T ?_) | (refine' tail_UE _ _ _ _ _ ?hb _ _ _ _ _ _ _ _ _ _ _ _ _ _ _ _ _ _ _ _ _ _ _ _ rsX ?F ?B ?U ?XB ?TB ?D ?T ?_)); k_dflt ((case hb => exact ⟨_, _, _, _, _, _, _, _, _, _, _, _, _, _, _, _, by k_is⟩); (case F => assumption); (case B => assumption); (case U => assumption); (case XB => assumption); (case TB => assumption); (case D => assumption); (case T => first | assumption | exact KtsTurn.refl); k_whole); clear rsX) | (rename RaisedSN _ _ _ _ _ _ _ => rsX; k_dflt (first | (refine' tail_PV _ _ _ _ _ ?hb _ _ _ _ _ _ _ _ _ _ _ _ _ _ _ _ _ _ _ _ _ _ _ _ rsX ?F ?B ?U ?XB ?TB ?D ?T ?_) | (refine' tail_VE _ _ _ _ _ ?hb _ _ _ _ _ _ _ _ _ _ _ _ _ _ _ _ _ _ _ _ _ _ _ _ rsX ?F ?B ?U ?XB ?TB ?D ?T ?_) | (refine' tail_TE _ _ _ _ _ ?hb _ _ _ _ _ _ _ _ _ _ _ _ _ _ _ _ _ _ _ _ _ _ _ _ rsX ?F ?B ?U ?XB ?TB ?D ?T ?_) | (refine' tail_AE _ _ _ _ _ ?hb _ _ _ _ _ _ _ _ _ _ _ _ _ _ _ _ _ _ _ _ _ _ _ _ rsX ?F ?B ?U ?XB ?TB ?D ?T ?_) | (refine' tail_LE _ _ _ _ _ ?hb _ _ _ _ _ _ _ _ _ _ _ _ _ _ _ _ _ _ _ _ _ _ _ _ rsX ?F ?B ?U ?XB ?TB ?D ?T ?_) | (refine' tail_UE _ _ _ _ _ ?hb _ _ _ _ _ _ _ _ _ _ _ _ _ _ _ _ _ _ _ _ _ _ _ _ rsX ?F ?B ?U ?XB ?TB ?D ?T ?_)); k_dflt ((case hb => exact ⟨_, _, _, _, _, _, _, _, _, _, _, _, _, _, _, _, by k_is⟩); (case F => assumption); (case B => assumption); (case U => assumption); (case XB => assumption); (case TB => assumption); (case D => assumption); (case T => first | assumption | exact KtsTurn.refl); k_whole); clear rsX)); intro h' g' tk' tk2' T' F' N' K' X' P' D'; (try k_lift K'); (try k_sweep); (try dsimp only)))

inductive SecQ0 (led : List (Addr × Obj)) : Int → Value → Prop
  | nought (c : Array UInt8) (u : Tok) (ks : List Int) (hc : KBw.bInts c = ks) (hz : (0 : Int) ∈ ks) : SecQ0 led 1 (.bytes c u)
  | other (v : Value) (ho : OtherN led v) : SecQ0 led 2 v
section
local macro_rules | `(tactic| wtm_at "z call builtin:len") => `(tactic| ((rename SaltQ2 _ _ => hSQ); cases hSQ))
local macro_rules | `(tactic| wtm_at "z call builtin:isinstance") => `(tactic| ((rename _ → SecQ0 _ _ _ => hSQ); (replace hSQ := hSQ rfl); cases hSQ))
theorem c_told_0 (w : World) (news : List (Addr × Obj)) (r : Int) (t1 t3 : Tok) (kind fault : Int) (sec sal : Value) (hS : SaltQ2 fault sal) (hK : fault = 0 → SecQ0 news kind sec) : CtT w (nat_lit 1280) [.int 0 t1, sec, sal, .int r t3] news (fun v => ∃ t', v = .str (blockDue 0 kind fault) t') := by
  unfold CtT
  intros
  rename_i hret
  refine wpAny_call ?_
  k_dflt (refine' code_defS0X ?k1 ?k2 ?k3 ?k4 ?k5 ?kA ?kF ?kK ?k6 ?k7 ?k8 ?k9 ?kB ?_ ?c2 ?c3 ?c4 ?c5; (case kA => exact rfl); (case kF => exact rfl); (case kK => exact rfl); (case k1 => k_asm); (case k2 => k_asm); (case k3 => k_asm); (case k4 => k_asm); (case k5 => k_asm); (case k6 => k_is); (case k7 => k_is); (case k8 => k_room); (case k9 => exact BindsTo.of_eq rfl); (case c5 => decide); (case kB => exact locs rfl); (case c2 => exact rfl); (case c3 => exact rfl); (case c4 => exact rfl); k_whole; intro g' L' h' FG' F' N' B' X' T' D'; (try dsimp only at F' ⊢); (try k_lift B'); (try k_fold))
  k_steps
  all_goals first | exact ret_of hret (by with_reducible assumption) (by with_reducible assumption) (by kcj_all) ⟨_, rfl⟩
end
section
local macro_rules | `(tactic| wtm_at "z call ref") => `(tactic| (k_here; (with_reducible show wpAny _ _ (call (Value.ref (nat_lit 1108)) [Value.bytes _ _]) _ _ _); k_dflt (refine' c_key _ _ _ ?hc ?hks _ _ _ _ _ _ _ _ _ _ _ _ _ _ _ _ _ _ _ _ _ _ _ _ ?k1 ?k2 ?k3 ?k4 ?k5 ?k6 ?k7 ?k8 ?_; (case hc => assumption); (case hks => first | assumption | omega); (case k1 => k_asm); (case k2 => k_asm); (case k3 => k_in); (case k4 => k_asm); (case k5 => assumption); (case k6 => assumption); (case k7 => assumption); (case k8 => k_asm)); intro v' s' op' hv' hk' F' N' G' os'; obtain ⟨kv', kt', rfl⟩ := hv'))
local macro_rules | `(tactic| wtm_at "z exec While") => `(tactic| (k_here; k_dflt (refine whl_start 1 ?_)))
local macro_rules | `(tactic| wtm_at "z exec While Compare") => `(tactic| (k_here; k_dflt (refine whl_start 1 ?_)))
local macro_rules | `(tactic| wtm_at "z WhlIf") => `(tactic| (refine WhlIf.no (decide_eq_false (by omega)) ?_))
local macro_rules | `(tactic| wtm_at "z call builtin:isinstance") => `(tactic| ((fail_if_success (with_reducible show wpAny _ _ (call (Value.builtin "isinstance") [Value.bytes _ _, _]) _ _ _)); (fail_if_success (with_reducible show wpAny _ _ (call (Value.builtin "isinstance") [Value.str _ _, _]) _ _ _)); (fail_if_success (with_reducible rename OtherN _ _ => hON)); first | ((rename SaltQ4 _ _ => hSQ); cases hSQ) | ((rename SecQ _ _ _ => hSQ); cases hSQ)))
theorem c_told_1 (w : World) (news : List (Addr × Obj)) (op : Obj) (r : Int) (t1 t3 : Tok) (kind fault : Int) (sec sal : Value) (hS : SaltQ4 fault sal) (hK : SecQ ((nat_lit 1103, op) :: news) kind sec) (hr : r < 1) (hr2 : -2000 ≤ r) : CtTK w (nat_lit 1280) [.int 1 t1, sec, sal, .int r t3] news op (fun v => ∃ t', v = .str (blockDue 1 kind fault) t') := by
  unfold CtTK
  intros
  rename_i hret
  refine wpAny_call ?_
  k_dflt (refine' code_defS0X ?k1 ?k2 ?k3 ?k4 ?k5 ?kA ?kF ?kK ?k6 ?k7 ?k8 ?k9 ?kB ?_ ?c2 ?c3 ?c4 ?c5; (case kA => exact rfl); (case kF => exact rfl); (case kK => exact rfl); (case k1 => k_asm); (case k2 => k_asm); (case k3 => k_asm); (case k4 => k_asm); (case k5 => k_asm); (case k6 => k_is); (case k7 => k_is); (case k8 => k_room); (case k9 => exact BindsTo.of_eq rfl); (case c5 => decide); (case kB => exact locs rfl); (case c2 => exact rfl); (case c3 => exact rfl); (case c4 => exact rfl); k_whole; intro g' L' h' FG' F' N' B' X' T' D'; (try dsimp only at F' ⊢); (try k_lift B'); (try k_fold))
  k_steps
  all_goals first
    | k_dflt (exact hret _ _ _ ⟨_, rfl⟩ (by with_reducible assumption) (by k_asm) (News.sub (by k_asm) (by kcj_all)) (by with_reducible assumption) (by first | with_reducible assumption | rfl))
    | (rename _ ∨ _ => hk2; rcases hk2 with rfl | rfl <;> k_dflt (exact hret _ _ _ ⟨_, rfl⟩ (by with_reducible assumption) (by k_asm) (News.sub (by k_asm) (by kcj_all)) (by with_reducible assumption) (by first | with_reducible assumption | rfl)))
end

theorem dueB {kind fault bounds : Int} (h1 : kind ≠ 1) (h2 : kind ≠ 2) (h : bounds ≠ 0) : textDue kind fault bounds = Str.ofString "AssertionError" := by
  unfold textDue; rw [if_neg h2, if_neg h1, if_pos h]
theorem dueE {kind fault bounds : Int} {t : Tok} (h1 : kind ≠ 1) (h2 : kind ≠ 2) (h : bounds ≠ 0) : ∃ t', Value.str (Str.ofString "AssertionError") t = .str (textDue kind fault bounds) t' := ⟨t, by rw [dueB h1 h2 h]⟩
/-- the rounds, by the bounds -/
inductive RoundQ (r : Int) : Int → Prop
  | fine (h0 : 1000 ≤ r) (h1 : r ≤ 999999999) : RoundQ r 0
  | out (b : Int) (hb : b ≠ 0) (h : r < 1000 ∨ 999999999 < r) : RoundQ r b
section
local macro_rules | `(tactic| wtm_at "z call builtin:isinstance") => `(tactic| ((fail_if_success (with_reducible show wpAny _ _ (call (Value.builtin "isinstance") [Value.bytes _ _, _]) _ _ _)); (fail_if_success (with_reducible show wpAny _ _ (call (Value.builtin "isinstance") [Value.str _ _, _]) _ _ _)); (fail_if_success (with_reducible rename OtherN _ _ => hON)); first | ((rename SecQ _ _ _ => hSQ); cases hSQ) | ((rename SaltT _ _ _ => hSQ); cases hSQ)))
theorem c_told_2 (w : World) (news : List (Addr × Obj)) (r : Int) (t1 t3 : Tok) (kind fault : Int) (sec sal : Value) (hS : SaltT 8 fault sal) (hK : SecQ news kind sec) : CtT w (nat_lit 1280) [.int 2 t1, sec, sal, .int r t3] news (fun v => ∃ t', v = .str (textDue kind fault 0) t') := by
  unfold CtT
  intros
  rename_i hret
  refine wpAny_call ?_
  k_dflt (refine' code_defS0X ?k1 ?k2 ?k3 ?k4 ?k5 ?kA ?kF ?kK ?k6 ?k7 ?k8 ?k9 ?kB ?_ ?c2 ?c3 ?c4 ?c5; (case kA => exact rfl); (case kF => exact rfl); (case kK => exact rfl); (case k1 => k_asm); (case k2 => k_asm); (case k3 => k_asm); (case k4 => k_asm); (case k5 => k_asm); (case k6 => k_is); (case k7 => k_is); (case k8 => k_room); (case k9 => exact BindsTo.of_eq rfl); (case c5 => decide); (case kB => exact locs rfl); (case c2 => exact rfl); (case c3 => exact rfl); (case c4 => exact rfl); k_whole; intro g' L' h' FG' F' N' B' X' T' D'; (try dsimp only at F' ⊢); (try k_lift B'); (try k_fold))
  k_steps
  all_goals first
    | exact ret_of hret (by with_reducible assumption) (by with_reducible assumption) (by kcj_all) (dueE (by decide) (by decide) (by with_reducible assumption))
    | exact ret_of hret (by with_reducible assumption) (by with_reducible assumption) (by kcj_all) ⟨_, rfl⟩
    | ((try clear hw); rename _ = _ ∨ _ = _ => hk2; rcases hk2 with rfl | rfl <;> exact ret_of hret (by with_reducible assumption) (by with_reducible assumption) (by kcj_all) ⟨_, rfl⟩)
end
section
local macro_rules | `(tactic| wtm_at "z call builtin:isinstance") => `(tactic| ((fail_if_success (with_reducible show wpAny _ _ (call (Value.builtin "isinstance") [Value.bytes _ _, _]) _ _ _)); (fail_if_success (with_reducible show wpAny _ _ (call (Value.builtin "isinstance") [Value.str _ _, _]) _ _ _)); (fail_if_success (with_reducible rename OtherN _ _ => hON)); first | ((rename SecQ _ _ _ => hSQ); cases hSQ) | ((rename SaltT _ _ _ => hSQ); cases hSQ)))
local macro_rules | `(tactic| wtm_at "z exec Assert") => `(tactic| ((with_reducible show wpAny _ _ (exec (Stmt.Assert (Expr.Compare _ [_, _] _ _) _ _) _) _ _ _); (rename RoundQ _ _ => hRQ); cases hRQ))
theorem c_told_3 (w : World) (news : List (Addr × Obj)) (way r : Int) (t1 t3 : Tok) (kind fault bounds : Int) (sec sal : Value) (hw : way = 3 ∨ way = 4) (hS : SaltT 16 fault sal) (hK : SecQ news kind sec) (hR : RoundQ r bounds) (hr1 : -2000000 ≤ r) (hr2 : r ≤ 2000000000) : CtT w (nat_lit 1280) [.int way t1, sec, sal, .int r t3] news (fun v => ∃ t', v = .str (textDue kind fault bounds) t') := by
  unfold CtT
  intros
  rename_i hret
  refine wpAny_call ?_
  k_dflt (refine' code_defS0X ?k1 ?k2 ?k3 ?k4 ?k5 ?kA ?kF ?kK ?k6 ?k7 ?k8 ?k9 ?kB ?_ ?c2 ?c3 ?c4 ?c5; (case kA => exact rfl); (case kF => exact rfl); (case kK => exact rfl); (case k1 => k_asm); (case k2 => k_asm); (case k3 => k_asm); (case k4 => k_asm); (case k5 => k_asm); (case k6 => k_is); (case k7 => k_is); (case k8 => k_room); (case k9 => exact BindsTo.of_eq rfl); (case c5 => decide); (case kB => exact locs rfl); (case c2 => exact rfl); (case c3 => exact rfl); (case c4 => exact rfl); k_whole; intro g' L' h' FG' F' N' B' X' T' D'; (try dsimp only at F' ⊢); (try k_lift B'); (try k_fold))
  k_steps
  all_goals first
    | exact ret_of hret (by with_reducible assumption) (by with_reducible assumption) (by kcj_all) (dueE (by decide) (by decide) (by with_reducible assumption))
    | exact ret_of hret (by with_reducible assumption) (by with_reducible assumption) (by kcj_all) ⟨_, rfl⟩
    | ((try clear hw); rename _ = _ ∨ _ = _ => hk2; rcases hk2 with rfl | rfl <;> exact ret_of hret (by with_reducible assumption) (by with_reducible assumption) (by kcj_all) ⟨_, rfl⟩)
end
end Mine
end -- told
section -- Tj2
open PySem PySem.W PySem.W.X PyProof.Rows PySem.Calls
namespace Mine
theorem secQ0_of {kind fault : Int} {sec : Value} {ex led : List (Addr × Obj)} (S : SecP kind sec ex) (hex : ∀ p ∈ ex, p ∈ led) (hc : fault = 0 → kind = 1 ∨ kind = 2) (hf : fault = 0) : SecQ0 led kind sec := by
  have hk := hc hf
  clear hc hf
  cases S with
  | octets c u h hl => omega
  | nought c u hz => exact .nought c u _ rfl (z_b hz)
  | text y u h hl => omega
  | none => exact .other _ (other_of .none hex)
  | int k u => exact .other _ (other_of (.int k u) hex)
  | list a vs n => exact .other _ (other_of (.list a vs n) hex)
  | tuple a vs n => exact .other _ (other_of (.tuple a vs n) hex)
theorem told01 (w : World) (news ex : List (Addr × Obj)) (op : Obj) (way kind fault r : Int) (sec sal : Value) (t1 t3 : Tok) (hw : way = 0 ∨ way = 1) (hc : way = 0 → fault = 0 → kind = 1 ∨ kind = 2) (S : SecP kind sec ex) (hex : ∀ p ∈ ex, p ∈ news)
    (B : SaltB (2 + 2 * way) fault sal) (hr : r < 1) (hr2 : -2000 ≤ r) : CtTK w (nat_lit 1280) [.int way t1, sec, sal, .int r t3] news op (fun v => ∃ t', v = .str (blockDue way kind fault) t') := by
  have hex' : ∀ p ∈ ex, p ∈ ((nat_lit 1103, op) :: news) := fun p hp => List.mem_cons_of_mem _ (hex p hp)
  rcases hw with rfl | rfl
  · exact of_T (fun v h => h) (c_told_0 w _ r t1 t3 kind fault sec sal (saltQ2_of B) (secQ0_of S hex' (hc rfl)))
  · exact c_told_1 w news op r t1 t3 kind fault sec sal (saltQ4_of B) (secQ_of S hex') hr hr2
theorem told2 (w : World) (news ex : List (Addr × Obj)) (op : Obj) (kind fault r : Int) (sec sal : Value) (t1 t3 : Tok) (S : SecP kind sec ex) (hex : ∀ p ∈ ex, p ∈ news)
    (B : SaltT 8 fault sal) : CtTK w (nat_lit 1280) [.int 2 t1, sec, sal, .int r t3] news op (fun v => ∃ t', v = .str (textDue kind fault 0) t') :=
  of_T (fun v h => h) (c_told_2 w _ r t1 t3 kind fault sec sal B (secQ_of S fun p hp => List.mem_cons_of_mem _ (hex p hp)))
theorem told34 (w : World) (news ex : List (Addr × Obj)) (op : Obj) (way kind fault bounds r : Int) (sec sal : Value) (t1 t3 : Tok) (hw : way = 3 ∨ way = 4) (S : SecP kind sec ex) (hex : ∀ p ∈ ex, p ∈ news)
    (B : SaltT 16 fault sal) (h0 : bounds = 0 → 1000 ≤ r ∧ r ≤ 999999999) (h1 : bounds ≠ 0 → r < 1000 ∨ 999999999 < r) (h2 : -2000000 ≤ r) (h3 : r ≤ 2000000000) :
    CtTK w (nat_lit 1280) [.int way t1, sec, sal, .int r t3] news op (fun v => ∃ t', v = .str (textDue kind fault bounds) t') := by
  have R : RoundQ r bounds := by
    by_cases hb : bounds = 0
    · subst hb
      exact .fine (h0 rfl).1 (h0 rfl).2
    · exact .out bounds hb (h1 hb)
  exact of_T (fun v h => h) (c_told_3 w _ way r t1 t3 kind fault bounds sec sal hw B (secQ_of S fun p hp => List.mem_cons_of_mem _ (hex p hp)) R h2 h3)
end Mine
end -- Tj2
section -- Fo
open PySem PySem.W PySem.W.X PyProof.Rows PySem.Calls
set_option maxHeartbeats 2000000
namespace Mine
def RangeIn (h₀ : Heap) (L : Addr) (m : PySem.Str → Option Value) (led : List (Addr × Obj)) (n : Nat) (s : Shared) (xv : Value) (s₁ : Shared) : Prop :=
  ∃ r t u v, xv = .ref r ∧ IsRange s₁.heap r 0 n 1 t u v ∧ Fr h₀ L s₁.heap m ∧ News h₀ L s₁.heap led ∧ s₁.gens = s.gens ∧ s₁.os = s.os
section
variable {w : World} {prog : Program} {A : Around} {E : Value → Shared → Prop} {s : Shared} {h₀ : Heap} {L a P cw : Addr} {m : PySem.Str → Option Value} {led : List (Addr × Obj)} {op ow : Obj} {cn : PySem.Str} {cs : Scope} {ccd : Value} {cl : List (PySem.Str × Addr)}
/-- where a turn must end -/
def WayEnd (h₀ : Heap) (L P cw I : Addr) (led : List (Addr × Obj)) (oI : Obj) (s : Shared) (f : Flow) (s₂ : Shared) : Prop :=
  f = .next ∧ ∃ m₂ op₂ ow₂ v₂, Fr h₀ L s₂.heap m₂ ∧ News h₀ L s₂.heap ((P, op₂) :: (cw, ow₂) :: (I, oI) :: led) ∧ KidsOk op₂ ∧ GB s₂.gens ∧ s₂.os = s.os ∧ ow₂.data = .cell v₂
theorem For_way {x : PySem.Str} {px pos : Pos} {iter : Expr} {body : List Stmt} {Q : Flow → Shared → Prop} {n : Nat} {v₀ : Option Value}
    (F : Fr h₀ L s.heap m) (N : News h₀ L s.heap ((P, op) :: (cw, ow) :: led)) (hcw : cl.lookup x = some cw) (hd : ow.data = .cell v₀) (hPc : P ≠ cw) (hne : ∀ p ∈ led, p.1 ≠ P ∧ p.1 ≠ cw) (hko : KidsOk op) (G : GB s.gens) (hh : A.handled = none) (hn : (n : Int) < 2 ^ 30)
    (h : wpAny (model prog w) A (eval iter (envX cn cs L a ccd cl)) (RangeIn h₀ L m ((P, op) :: (cw, ow) :: led) n s) E s)
    (turn : ∀ (i : Nat) m₁ op₁ ow₁ I oI s₁ t, i < n → Fr h₀ L s₁.heap m₁ → News h₀ L s₁.heap ((P, op₁) :: (cw, ow₁) :: (I, oI) :: led) → (∀ p ∈ (cw, ow₁) :: (I, oI) :: led, p.1 ≠ P) → KidsOk op₁ → GB s₁.gens → s₁.os = s.os → ow₁.data = .cell (some (.int i t)) →
      wpAny (model prog w) A (execs body (envX cn cs L a ccd cl)) (WayEnd h₀ L P cw I led oI s) E s₁)
    (hQ : ∀ m' s' op', Fr h₀ L s'.heap m' → s'.os = s.os → GB s'.gens → News h₀ L s'.heap ((P, op') :: led) → KidsOk op' → Q .next s')
    (hk : cs.kind = .function) (hx : (envX cn cs L a ccd cl).kindOf x = some .cell)
    (hs : ∀ x, foldedSetIterable iter (envX cn cs L a ccd cl) x = pure x)
    (hE : PassesOwn (model prog w) A (envX cn cs L a ccd cl) E) :
    wpAny (model prog w) A (exec (.For (.Name x px) iter body [] pos) (envX cn cs L a ccd cl)) Q E s := by
  refine wpAny_For (wpAny_mono h (fun xv s₁ h₁ => ?_) fun _ _ e => e) hs
  obtain ⟨r, t, u, v, rfl, hr, F₁, N₁, g₁, o₁⟩ := h₁
  have hsm : Builtin.Range.small 0 (n : Int) 1 = true := small_one (by decide) (by decide) (by omega) (by omega)
  refine wpAny_pyIter_range hr hsm ?_
  have hsz : Builtin.Range.rangeSize 0 (n : Int) 1 = n := by rw [rangeSize_nat]; omega
  rw [hsz]
  obtain ⟨I, hI⟩ : ∃ I, I = s₁.heap.objs.size := ⟨_, rfl⟩
  rw [← hI]
  have W := fun A' hA => Walks.range (prog := prog) (w := w) (A := A') hA I 0 1 n
  have hIlt : ∀ p ∈ ((P, op) :: (cw, ow) :: led), p.1 ≠ I := fun p hp q => by
    have := Heap.lt_size (N₁ p hp).1
    rw [q, hI] at this; exact Nat.lt_irrefl _ this
  have hIL : I ≠ L := fun q => by
    have := F₁.ns.lt
    rw [← q, hI] at this; exact Nat.lt_irrefl _ this
  have hI0 : h₀.get? I = none := by
    cases hq : h₀.get? I with
    | none => rfl
    | some o => exact absurd (F₁.keep _ _ hq |> Heap.lt_size) (by rw [hI]; exact Nat.lt_irrefl _)
  refine codeAny_forLoop_any (R := fun r s' => match r with | .ok f => Q f s' | .error e => cameBackBy (model prog w) A (envX cn cs L a ccd cl) E e s')
    (fun k s' => ∃ (i : Nat) (m' : PySem.Str → Option Value) (op' ow' : Obj) (v' : Option Value), IsRangeIter s'.heap I (0 + (i : Nat) * 1) ((n : Int) - (i : Nat)) 1 ∧ Fr h₀ L s'.heap m' ∧ News h₀ L s'.heap ((P, op') :: (cw, ow') :: led) ∧ KidsOk op' ∧ GB s'.gens ∧ s'.os = s.os ∧ ow'.data = .cell v' ∧ i ≤ n ∧ k = n + 1 - i) ?_ (n + 1) ?_
  · rintro k s' ⟨i, m', op', ow', v', hst, F', N', hk', G', os', hd', hi, rfl⟩
    have next : ∀ h₁ : Heap, (∀ b o, b ∉ [I] → s'.heap.get? b = some o → h₁.get? b = some o) → Fr h₀ L h₁ m' ∧ News h₀ L h₁ ((P, op') :: (cw, ow') :: led) := fun h₁ hk₁ =>
      ⟨⟨F'.ns.at' fun o e => hk₁ _ o (by simp [Ne.symm hIL]) e, fun b o e => hk₁ b o (fun hm => by rw [List.mem_singleton.1 hm, hI0] at e; cases e) (F'.keep b o e), F'.above⟩, fun p hp => ⟨hk₁ _ _ (fun hm => by
        have hp' : p.1 ≠ I := by
          rcases List.mem_cons.mp hp with rfl | hp
          · exact hIlt (P, op) (List.mem_cons_self ..)
          · rcases List.mem_cons.mp hp with rfl | hp
            · exact hIlt (cw, ow) (List.mem_cons_of_mem _ (List.mem_cons_self ..))
            · exact hIlt p (List.mem_cons_of_mem _ (List.mem_cons_of_mem _ hp))
        exact hp' (List.mem_singleton.1 hm)) (N' p hp).1, (N' p hp).2⟩⟩
    by_cases hlt : i < n
    · refine (W A hh).item i _ _ _ hlt hst fun v h₁ tk₁ hMd st₁ hk₁ => ?_
      obtain ⟨t, rfl⟩ := hMd
      obtain ⟨F₁', N₁'⟩ := next h₁ hk₁
      refine wpAny_pure ?_
      refine PyProof.Rows.assign_Name ?_
      have hmem := N₁' (cw, ow') (List.mem_cons_of_mem _ (List.mem_cons_self ..))
      refine wpAny_storeName_cell hk hx hcw ⟨ow', hmem.1, hd'⟩ fun h₂ hv hs₂ => ?_
      obtain ⟨ow₂, how, hdw⟩ := hv
      have F₂ : Fr h₀ L h₂ m' := ⟨F₁'.ns.sameBut hs₂ (Ne.symm hmem.2.1), fun b ob e => (hs₂.2 b (fun q => by rw [q, hmem.2.2] at e; cases e)).trans (F₁'.keep b ob e), F₁'.above⟩
      obtain ⟨oI, hoI⟩ : ∃ oI, h₂.get? I = some oI := by
        refine ⟨_, (hs₂.2 I ?_).trans st₁⟩
        exact fun q => hIlt (cw, ow) (List.mem_cons_of_mem _ (List.mem_cons_self ..)) q.symm
      have st₂ : IsRangeIter h₂ I (0 + ((i + 1 : Nat) : Int) * 1) ((n : Int) - ((i + 1 : Nat) : Int)) 1 := (hs₂.2 I (fun q => hIlt (cw, ow) (List.mem_cons_of_mem _ (List.mem_cons_self ..)) q.symm)).trans st₁
      have N₂ : News h₀ L h₂ ((P, op') :: (cw, ow₂) :: (I, oI) :: led) := fun p hp => by
        rcases List.mem_cons.mp hp with rfl | hp
        · exact ⟨(hs₂.2 _ hPc).trans (N₁' _ (List.mem_cons_self ..)).1, (N₁' _ (List.mem_cons_self ..)).2⟩
        · rcases List.mem_cons.mp hp with rfl | hp
          · exact ⟨how, hmem.2⟩
          · rcases List.mem_cons.mp hp with rfl | hp
            · exact ⟨hoI, hIL, hI0⟩
            · have z := N₁' p (List.mem_cons_of_mem _ (List.mem_cons_of_mem _ hp))
              exact ⟨(hs₂.2 _ (hne p hp).2).trans z.1, z.2⟩
      have hwh : (.int (0 + (i : Nat) * 1) t : Value) = .int i t := by simp
      rw [hwh] at hdw
      refine wpAny_mono (wpAny_passesOwn hE (turn i m' op' ow₂ I oI _ t hlt F₂ N₂ (fun p hp => ?_) hk' G' os' hdw)) (fun f s₃ h₃ => ?_) fun _ _ e => e
      · rcases List.mem_cons.mp hp with rfl | hp
        · exact Ne.symm hPc
        · rcases List.mem_cons.mp hp with rfl | hp
          · exact Ne.symm (hIlt (P, op) (List.mem_cons_self ..))
          · exact (hne p hp).1
      · obtain ⟨rfl, m₂, op₂, ow₃, v₃, F₃, N₃, k₃, G₃, o₃, d₃⟩ := h₃
        refine ⟨n + 1 - (i + 1), by omega, i + 1, m₂, op₂, ow₃, v₃, ?_, F₃, fun p hp => N₃ p ?_, k₃, G₃, o₃, d₃, hlt, rfl⟩
        · have q := (N₃ (I, oI) (List.mem_cons_of_mem _ (List.mem_cons_of_mem _ (List.mem_cons_self ..)))).1
          have e : oI = _ := Option.some.inj (hoI.symm.trans st₂)
          rw [e] at q
          exact q
        · rcases List.mem_cons.mp hp with rfl | hp
          · exact List.mem_cons_self ..
          · rcases List.mem_cons.mp hp with rfl | hp
            · exact List.mem_cons_of_mem _ (List.mem_cons_self ..)
            · exact List.mem_cons_of_mem _ (List.mem_cons_of_mem _ (List.mem_cons_of_mem _ hp))
    · have hin : i = n := by omega
      subst hin
      refine (W A hh).done _ _ _ hst fun h₁ tk₁ hk₁ => wpAny_execs_nil ?_
      obtain ⟨F₁', N₁'⟩ := next h₁ hk₁
      exact hQ m' _ op' F₁' os' G' (fun p hp => N₁' p (by
        rcases List.mem_cons.mp hp with rfl | hp
        · exact List.mem_cons_self ..
        · exact List.mem_cons_of_mem _ (List.mem_cons_of_mem _ hp))) hk'
  · refine ⟨0, m, op, ow, v₀, ?_, F₁.push _, fun p hp => ⟨Heap.get?_push_of_some _ (N₁ p hp).1, (N₁ p hp).2⟩, hko, (show GB s₁.gens by rw [g₁]; exact G), o₁, hd, Nat.zero_le _, rfl⟩
    show Heap.get? _ I = _
    rw [hI]
    simpa using Heap.get?_push_size s₁.heap rfl
end
end Mine
end -- Fo
section -- Th
open PySem PySem.W PySem.W.X PyProof.Rows PySem.Calls
set_option maxHeartbeats 2000000
namespace Mine
section
variable {h : Heap} {P : Addr}
theorem hide_one {b : Addr} {o : Obj} (e : h.get? b = some o) (hb : b ≠ P) : (hideAll h [P]).get? b = some o := hideAll_get _ e (by simp [hb])
theorem ne_of_obj {b : Addr} {o : Obj} (ho : h.get? P = some o1103) (e : h.get? b = some o) (hd : o.data ≠ .fields #[]) : b ≠ P := fun q => by
  rw [q, ho] at e
  obtain rfl := Option.some.inj e
  exact hd rfl
theorem ns_hide {b : Addr} {m : PySem.Str → Option Value} (ho : h.get? P = some o1103) (x : h.Ns b m) : (hideAll h [P]).Ns b m := by
  obtain ⟨o, es, ep, e, d, r⟩ := x
  exact ⟨o, es, ep, hide_one e (ne_of_obj ho e (by rw [d]; simp)), d, r⟩
theorem code_hide {cd : Value} {q : PySem.Str} (ho : h.get? P = some o1103) (x : h.CodeRec cd q) : (hideAll h [P]).CodeRec cd q := by
  obtain ⟨c, o, vs, t, e, g, d, r⟩ := x
  refine ⟨c, o, vs, t, e, hide_one g (ne_of_obj ho g ?_), d, r⟩
  rw [d]
  intro z
  injection z with z
  rw [z] at r
  cases r
theorem seer_hide (ho : h.get? P = some o1103) (x : h.NoSeer) : (hideAll h [P]).NoSeer where
  statics := let ⟨mc, a, b⟩ := x.statics; ⟨mc, ns_hide ho a, b⟩
  mods := let ⟨mm, a, b⟩ := x.mods; ⟨mm, ns_hide ho a, b⟩
  imp := let ⟨mb, a, b⟩ := x.imp; ⟨mb, ns_hide ho a, b⟩
  main := let ⟨mg, bm, ob, a, b, c, d, e⟩ := x.main; ⟨mg, bm, ob, ns_hide ho a, b, hide_one c (fun q => by rw [q, ho] at c; obtain rfl := Option.some.inj c; cases d), d, e⟩
theorem top_hide {p : Program} {loose : List PySem.Str} {mean : ExcName → Option Value} {mg mb : PySem.Str → Option Value} (T : Top p loose mean mg mb h) (ho : h.get? P = some o1103) (hown : ownsOf p = [])
    (ht : ∀ d ∈ recsOf p, ∀ a o fd c P', mg d.name = some (.ref a) → h.get? a = some o → o.data = .func fd → fd.code = .ref c → h.TableAt c P' #[] → P' ≠ P) : Top p loose mean mg mb (hideAll h [P]) where
  g := ns_hide ho T.g
  b := ns_hide ho T.b
  nolimit := let ⟨mc, a, b⟩ := T.nolimit; ⟨mc, ns_hide ho a, b⟩
  nodigits := let ⟨mc, a, b⟩ := T.nodigits; ⟨mc, ns_hide ho a, b⟩
  fn := fun d hd => let ⟨a, o, pm, code, doc, h1, h2, h3, h4⟩ := T.fn d hd; ⟨a, o, pm, code, doc, h1, hide_one h2 (ne_of_obj ho h2 (by rw [h3]; simp)), h3, code_hide ho h4⟩
  own := fun o hm => by rw [hown] at hm; cases hm
  const := T.const
  free := T.free
  builtins := T.builtins
  tab := fun d hd => by
    obtain ⟨a, o, fd, c, P', h1, h2, h3, h4, h5, h6⟩ := T.tab d hd
    have hP := ht d hd a o fd c P' h1 h2 h3 h4 h6
    obtain ⟨⟨o2, vs, a1, a2, a3, a4⟩, a5⟩ := h6
    have hc : c ≠ P := ne_of_obj ho a1 (by rw [a3]; intro z; injection z with z; rw [z] at a4; cases a4)
    refine ⟨a, o, fd, c, P', h1, hide_one h2 (ne_of_obj ho h2 (by rw [h3]; simp)), h3, h4, ?_, ⟨⟨o2, vs, hide_one a1 hc, a2, a3, a4⟩, hide_one a5 hP⟩⟩
    obtain ⟨o, vs, file, tf, flags, tg, inF, text, tt, op, b1, b2, b3, b4, b5, b6, b7, b8, r⟩ := h5
    exact ⟨o, vs, file, tf, flags, tg, inF, text, tt, op, hide_one b1 hc, b2, b3, b4, b5, b6, b7, hide_one b8 hP, r⟩
  bmain := let ⟨bm, ob, h1, h2, h3, h4, r⟩ := T.bmain; ⟨bm, ob, h1, h2, hide_one h3 (fun q => by rw [q, ho] at h3; obtain rfl := Option.some.inj h3; cases h4), h4, r⟩
  seer := fun hi => seer_hide ho (T.seer hi)
end
theorem in_hide {K : Frag} {h : Heap} {P : Addr} (X : K.In h) (hP : K.lookup P = none) : K.In (hideAll h [P]) := fun a o e => by
  exact hide_one (X a o e) fun q => by rw [q, hP] at e; cases e
end Mine
end -- Th
section -- Lt
open PySem PySem.W PySem.W.X PyProof.Rows PySem.Calls
set_option maxHeartbeats 2000000
namespace Mine
/-- the children's table of the law's own code is not P -/
def lawTab (K : Frag) (f P : Addr) : Bool := match K.lookup f with
  | some o => (match o.data with
    | .func fd => (match fd.code with
      | .ref c => (match K.lookup c with
        | some o2 => (match o2.data with
          | .fields vs => (match (vs[11]? : Option Value) with
            | some (Value.ref P') => P' != P
            | _ => false)
          | _ => false)
        | none => false)
      | _ => false)
    | _ => false)
  | none => false
theorem tab_ne {K : Frag} {f P : Addr} {h : Heap} (X : K.In h) (q : lawTab K f P = true) {o : Obj} {fd : FuncData} {c P' : Addr} (ho : h.get? f = some o) (hd : o.data = .func fd) (hc : fd.code = .ref c) (ht : h.TableAt c P' #[]) : P' ≠ P := by
  unfold lawTab at q
  split at q
  · rename_i o' e
    have z := X _ _ e
    rw [ho] at z
    obtain rfl := Option.some.inj z
    rw [hd] at q
    dsimp only at q
    rw [hc] at q
    dsimp only at q
    split at q
    · rename_i o2 e2
      obtain ⟨⟨o3, vs, a1, a2, a3, a4⟩, _⟩ := ht
      have z2 := X _ _ e2
      rw [a1] at z2
      obtain rfl := Option.some.inj z2
      rw [a3] at q
      dsimp only at q
      rw [a4] at q
      dsimp only at q
      simpa using q
    · cases q
  · cases q
theorem recs_law : ((recsOf qv).all fun d => d.name == Str.ofString "law") = true := by decide +kernel
theorem owns_law : ownsOf qv = [] := by decide +kernel
theorem top_hid {w : World} {mean : ExcName → Option Value} {mg mb : Str → Option Value} {h : Heap} (X : (fr.heap_1 w.params).In h) (T : Top qv (looseW qv loose) mean mg mb h) (ho : h.get? (nat_lit 1103) = some o1103) : Top qv (looseW qv loose) mean mg mb (hideAll h [nat_lit 1103]) := by
  refine top_hide T ho owns_law fun d hd a o fd c P' h1 h2 h3 h4 h6 => ?_
  have hn : d.name = Str.ofString "law" := by simpa using List.all_eq_true.mp recs_law d hd
  have hl : mg (Str.ofString "law") = some (.ref (nat_lit 1330)) := mg_of X T.g (by kernel_rfl)
  rw [hn, hl] at h1
  injection h1 with h1
  injection h1 with h1
  subst h1
  exact tab_ne X (f := nat_lit 1330) (P := nat_lit 1103) (by kernel_rfl) h2 h3 h4 h6
theorem code_1107 (P : Params) : ∃ o vs, (fr.heap_1 P).lookup (nat_lit 1107) = some o ∧ o.cls = .type "code" ∧ o.data = .fields vs ∧ vs[11]? = some (.ref (nat_lit 1103)) :=
  let ⟨o, vs, _, _, _, _, _, _, _, a, b, _, _, _, _, _, _, c, d⟩ := kid1107 P; ⟨o, vs, a, c, b, d⟩
/-- the heap that the law leaves -/
theorem old_hid {w : World} {h h' : Heap} {L : Addr} {m : Str → Option Value} {op : Obj} (X : (fr.heap_1 w.params).In h) (ho : h.get? (nat_lit 1103) = some o1103) (F : Fr (hideAll h [nat_lit 1103]) L h' m) (hop : h'.get? (nat_lit 1103) = some op) (hk : KidsOk op) : OldK h h' := by
  obtain ⟨ps, rfl, _⟩ := hk
  obtain ⟨o, vs, e1, e2, e3, e4⟩ := code_1107 w.params
  refine ⟨fun b o' e => ?_, fun b o' e => ?_⟩
  · by_cases hb : b = nat_lit 1103
    · subst hb
      rw [ho] at e
      obtain rfl := Option.some.inj e
      exact .inr (.inl ⟨⟨_, o, vs, X _ _ e1, e2, e3, e4⟩, rfl, #[], ps, rfl, by rw [hop]; simp [o1103]⟩)
    · exact .inl (F.keep b o' (hide_one e hb))
  · by_cases hb : b = nat_lit 1103
    · exact ⟨_, hb ▸ hop⟩
    · exact ⟨o', F.keep b o' (hide_one e hb)⟩
end Mine
end -- Lt
section -- Tua
open PySem PySem.W PySem.W.X PyProof.Rows PySem.Calls
set_option maxHeartbeats 2000000
namespace Mine
theorem lst_in {h₀ g h : Heap} {L L' l : Addr} {m m' : Str → Option Value} {vs : Array Value} (hL : h₀.IsList l vs) (FG : Fr h₀ L g m) (F : Fr g L' h m') : h.IsList l vs := stays_list F.keep (stays_list FG.keep hL)
section
variable {prog : Program} {w : World} {A : Around} {E : Value → Shared → Prop} {s : Shared} {Q : Value → Shared → Prop} {l : Addr} {vs : List Value} {xs : List Int}
theorem len_cell (hl : s.heap.IsList l vs.toArray) (hi : IntsAre vs xs) (hx : xs.length ≤ 63) (h : ∀ t tk, Q (.int xs.length t) { s with toks := tk }) : wpAny (model prog w) A (call (.builtin "len") [.ref l]) Q E s := by
  have e : vs.toArray.size = xs.length := by simp [hi.length]
  refine len_list hl (by rw [e]; omega) ?_
  rw [e]
  exact h _ _
theorem item_cell {value slice : Expr} {k : Int} {u : Tok} (hl : s.heap.IsList l vs.toArray) (hi : IntsAre vs xs) (hx : xs.length ≤ 63) (h0 : 0 ≤ k) (h1 : k < xs.length) (h : ∀ t, Q (.int (xs.getD k.toNat 0) t) s)
    (hs : subscripted slice false (.ref l) (.int k u) = operate [.ref l, .int k u] (getItem (.ref l) (.int k u)) := by with_unfolding_all rfl) (hg : ∀ r, letTemporaryGo value (.ref l) r = pure () := by intro _; with_unfolding_all rfl) :
    wpAny (model prog w) A (subscriptTail value slice (.ref l) (.int k u)) Q E s := by
  have hlt : k.toNat < xs.length := by omega
  obtain ⟨t, ht⟩ := hi.get k.toNat xs[k.toNat] (List.getElem?_eq_getElem hlt)
  refine item_list hl h0 (by omega) (by simpa using ht) ?_ hs hg
  have e : xs.getD k.toNat 0 = xs[k.toNat] := by simp [List.getD_eq_getElem?_getD, hlt]
  rw [← e]
  exact h t
end
/-- what the script holds at a place -/
def cellv (xs : List Int) (j : Int) : Int := if j < xs.length then xs.getD j.toNat 0 else 0
theorem cellv_yes {xs : List Int} {j : Int} {t : Tok} (h : j < xs.length) : ∃ t', Value.int (xs.getD j.toNat 0) t = .int (cellv xs j) t' := ⟨t, by unfold cellv; rw [if_pos h]⟩
theorem cellv_no {xs : List Int} {j : Int} {t : Tok} (h : ¬ j < xs.length) : ∃ t', Value.int 0 t = .int (cellv xs j) t' := ⟨t, by unfold cellv; rw [if_neg h]⟩
theorem three {ys : List Value} {a b c : Int} (h : IntsAre ys [a, b, c]) : ∃ t1 t2 t3, ys = [.int a t1, .int b t2, .int c t3] := by
  have hl := h.length
  match ys, hl with
  | [y1, y2, y3], _ =>
    obtain ⟨t1, e1⟩ := h.get 0 a rfl
    obtain ⟨t2, e2⟩ := h.get 1 b rfl
    obtain ⟨t3, e3⟩ := h.get 2 c rfl
    simp at e1 e2 e3
    exact ⟨t1, t2, t3, by rw [e1, e2, e3]⟩
/-- 'the function at 1330 has this body and this scope' -/
def LawAt (P : Params) (qual : Str) (scope : Scope) (cdv : Value) (x : Str) (iter : Expr) (body : List Stmt) (r : Stmt) : Prop :=
  ∃ oc od osl name params dV kV doc pm an ct px p1 cls, (fr.heap_1 P).lookup (nat_lit 1330) = some ⟨oc, od, .func (fnX name qual params [.For (.Name x px) iter body [] p1, r] scope cls dV kV doc pm an cdv ct), osl⟩
theorem c_sec (w : World) (kind far : Int) (t1 t2 : Tok) (h0 : 0 ≤ kind) (h3 : kind ≤ 3) : CtX 302 7 w (nat_lit 1285) [.int kind t1, .int far t2] (SecP kind) := by
  have : kind = 0 ∨ kind = 1 ∨ kind = 2 ∨ kind = 3 := by omega
  rcases this with rfl | rfl | rfl | rfl
  · exact c_sec0 w far t1 t2
  · exact c_sec1 w far t1 t2
  · exact c_sec2 w far t1 t2
  · exact c_sec3 w far t1 t2
end Mine
end -- Tua
section -- Tub
open PySem PySem.W PySem.W.X PyProof.Rows PySem.Calls
namespace Mine
/-- the objects that the secret brought, kept beside the ledger -/
def Side (h₀ : Heap) (L : Addr) (h : Heap) (ex : List (Addr × Obj)) : Prop := News h₀ L h ex
theorem side {h₀ h : Heap} {L : Addr} {ex : List (Addr × Obj)} (N : News h₀ L h ex) : Side h₀ L h ex := N
theorem sec_ne {kind : Int} {v : Value} {ex : List (Addr × Obj)} {h₀ h : Heap} {L P : Addr} {op : Obj} (S : SecP kind v ex) (N : News h₀ L h ex) (ho : h.get? P = some op) (hk : KidsOk op) : ∀ q ∈ ex, q.1 ≠ P := by
  obtain ⟨ps, he, _⟩ := hk
  have hd : op.data = .fields ps := by rw [he]
  intro q hq e
  have z := (N q hq).1
  rw [e, ho] at z
  have z := Option.some.inj z
  rw [z] at hd
  cases S with
  | list a vs n => rw [List.mem_singleton.1 hq] at hd; cases hd
  | tuple a vs n => rw [List.mem_singleton.1 hq] at hd; cases hd
  | octets => cases hq
  | nought => cases hq
  | none => cases hq
  | int => cases hq
  | text => cases hq
theorem sne_no {a : Str} {P Q : Prop} (k : Q) : if (a != a) = true then P else Q := by rw [if_neg (by simp)]; exact k
theorem r34a (x : Int) : 1000 ≤ 1000 + x.fmod 1000000 ∧ 1000 + x.fmod 1000000 ≤ 999999999 := by have := fmod_lo x (n := 1000000) (by decide); have := fmod_hi x (n := 1000000) (by decide); omega
theorem r34b (x : Int) : 999 - x.fmod 1000000 < 1000 ∨ 999999999 < 999 - x.fmod 1000000 := by have := fmod_lo x (n := 1000000) (by decide); omega
theorem r34c (x : Int) : 1000000000 + x.fmod 1000000 < 1000 ∨ 999999999 < 1000000000 + x.fmod 1000000 := by have := fmod_lo x (n := 1000000) (by decide); omega
theorem r34d (x : Int) : -2000000 ≤ 1000 + x.fmod 1000000 := by have := fmod_lo x (n := 1000000) (by decide); omega
theorem r34e (x : Int) : -2000000 ≤ 999 - x.fmod 1000000 := by have := fmod_hi x (n := 1000000) (by decide); omega
theorem r34f (x : Int) : -2000000 ≤ 1000000000 + x.fmod 1000000 := by have := fmod_lo x (n := 1000000) (by decide); omega
theorem r34g (x : Int) : 1000 + x.fmod 1000000 ≤ 2000000000 := by have := fmod_hi x (n := 1000000) (by decide); omega
theorem r34h (x : Int) : 999 - x.fmod 1000000 ≤ 2000000000 := by have := fmod_lo x (n := 1000000) (by decide); omega
theorem r34i (x : Int) : 1000000000 + x.fmod 1000000 ≤ 2000000000 := by have := fmod_hi x (n := 1000000) (by decide); omega
theorem rhi (x : Int) : x.fmod 1000 - 999 < 1 := by have := fmod_hi x (n := 1000) (by decide); omega
theorem rlo (x : Int) : -2000 ≤ x.fmod 1000 - 999 := by have := fmod_lo x (n := 1000) (by decide); omega
section
variable {w : World} {mean : ExcName → Option Value} {mg mb : Str → Option Value} {gd : Option (List Code)} {cn : Str} {nm : List (Str × NameKind)} {ig ic : Bool} {more : List (Str × Const)} {a : Addr} {ccd : Value} {cl : List (Str × Addr)} {A₀ : Around} {base h₀ : Heap} {L : Addr} {m : Str → Option Value} {s : Shared} {Q E : Value → Shared → Prop}
variable {news ex : List (Addr × Obj)} {op o1 o2 o3 : Obj} {c1 c2 c3 : Addr}
theorem told_X {f : Addr} {vs : List Value} {kind : Int} {sec : Value} {P : Str} (c : CtTK w f vs (ex ++ [(c1, o1), (c2, o2), (c3, o3)]) op (fun v => ∃ t', v = .str P t'))
    (B : Below A₀ base [] h₀) (F : Fr h₀ L s.heap m) (X : (fr.heap_1 w.params).In h₀) (N : News h₀ L s.heap news) (T : Top qv (looseW qv loose) mean mg mb h₀) (XB : (fr.heap_1 w.params).In base) (TB : Top qv (looseW qv loose) mean mg mb base)
    (S : SecP kind sec ex) (Nx : Side h₀ L s.heap ex) (hs : ∀ p ∈ [(nat_lit 1103, op), (c1, o1), (c2, o2), (c3, o3)], p ∈ news) (hne : ∀ q ∈ [(c1, o1), (c2, o2), (c3, o3)], q.1 ≠ nat_lit 1103) (hk : KidsOk op) (G : GB s.gens)
    (hQ : ∀ t' s' op', KidsOk op' → Fr h₀ L s'.heap m → News h₀ L s'.heap [(nat_lit 1103, op'), (c1, o1), (c2, o2), (c3, o3)] → GB s'.gens → s'.os = s.os → Q (.str P t') s') :
    wpAny (model PW w) (ktrTop 302 7 gd cn ⟨.function, nm, ig, ic, more⟩ L a ccd cl []) (call (.ref f) vs) Q E s := by
  have N4 : News h₀ L s.heap [(nat_lit 1103, op), (c1, o1), (c2, o2), (c3, o3)] := fun p hp => N p (hs p hp)
  have N5 : News h₀ L s.heap ((nat_lit 1103, op) :: (ex ++ [(c1, o1), (c2, o2), (c3, o3)])) := fun p hp => by
    rcases List.mem_cons.mp hp with rfl | hp
    · exact N4 _ (List.mem_cons_self ..)
    · rcases List.mem_append.mp hp with hp | hp
      · exact Nx p hp
      · exact N4 p (List.mem_cons_of_mem _ hp)
  refine c mean mg mb gd cn nm ig ic more a ccd cl A₀ base h₀ L m s Q E B F X N5 (fun q hq => ?_) hk G T XB TB fun v s' op' pv hk' F' N' G' os' => ?_
  · rcases List.mem_append.mp hq with hq | hq
    · exact sec_ne S Nx (N4 _ (List.mem_cons_self ..)).1 hk q hq
    · exact hne q hq
  · obtain ⟨t', rfl⟩ := pv
    refine hQ t' s' op' hk' F' (fun p hp => N' p ?_) G' os'
    rcases List.mem_cons.mp hp with rfl | hp
    · exact List.mem_cons_self ..
    · exact List.mem_cons_of_mem _ (List.mem_append_right _ hp)
end
end Mine
end -- Tub
section -- Tu1
open PySem PySem.W PySem.W.X PyProof.Rows PySem.Calls
set_option maxHeartbeats 2000000
namespace Mine
local macro_rules | `(tactic| wtm_at "z call ref") => `(tactic| (k_here; (with_reducible show wpAny _ _ (call (Value.ref (nat_lit 1297)) _) _ _ _); k_dflt (refine' c_bsalt _ _ _ _ _ _ _ ?h0 ?h1 ?h2 ?h3 _ _ _ _ _ _ _ _ _ _ _ _ _ _ _ _ _ _ _ _ _ _ ?kB ?kF ?kX ?kN ?kT ?_; (case kB => k_asm); (case kF => k_asm); (case kX => k_asm); (case kN => k_asm); (case kT => k_asm); (case h0 => first | omega | exact fmod_lo _ (by decide) | exact Int.le_of_lt_add_one (fmod_hi _ (by decide))); (case h1 => first | omega | exact fmod_lo _ (by decide) | exact Int.le_of_lt_add_one (fmod_hi _ (by decide))); (case h2 => omega); (case h3 => omega)); intro v' h' tk' ex' hv' F' N' Nx'; (clear Nx'); obtain ⟨sB', e'⟩ := hv'; subst e'))
local macro_rules | `(tactic| wtm_at "z call ref") => `(tactic| (k_here; (with_reducible show wpAny _ _ (call (Value.ref (nat_lit 1318)) _) _ _ _); k_dflt (refine' c_block_due _ _ _ _ _ _ _ _ _ _ _ _ _ _ _ _ _ _ _ _ _ _ _ _ _ _ _ _ _ ?kB ?kF ?kX ?kN ?kT ?_; (case kB => k_asm); (case kF => k_asm); (case kX => k_asm); (case kN => k_asm); (case kT => k_asm)); intro v' h' tk' ex' hv' F' N' Nx'; (clear Nx'); obtain ⟨⟨t', e'⟩, e2'⟩ := hv'; subst e'; subst e2'))
local macro_rules | `(tactic| wtm_at "z call ref") => `(tactic| (k_here; (with_reducible show wpAny _ _ (call (Value.ref (nat_lit 1285)) _) _ _ _); k_dflt (refine' c_sec _ _ _ _ _ ?h0 ?h1 _ _ _ _ _ _ _ _ _ _ _ _ _ _ _ _ _ _ _ _ _ _ ?kB ?kF ?kX ?kN ?kT ?_; (case kB => k_asm); (case kF => k_asm); (case kX => k_asm); (case kN => k_asm); (case kT => k_asm); (case h0 => first | omega | exact fmod_lo _ (by decide) | exact Int.le_of_lt_add_one (fmod_hi _ (by decide))); (case h1 => first | omega | exact fmod_lo _ (by decide) | exact Int.le_of_lt_add_one (fmod_hi _ (by decide)))); intro v' h' tk' ex' sS' F' N' Nx'; (replace Nx' := side Nx')))
local macro_rules | `(tactic| wtm_at "z call ref") => `(tactic| (k_here; (with_reducible show wpAny _ _ (call (Value.ref (nat_lit 1280)) _) _ _ _); (with_reducible rename SecP _ _ _ => kS'); (with_reducible rename SaltB _ _ _ => kB'); k_dflt (refine' told_X (told01 _ _ _ _ _ _ _ _ _ _ _ _ ?hw ?hc kS' ?hex kB' ?hr ?hr2) ?kB ?kF ?kX ?kN ?kT ?kXB ?kTB kS' ?kNx ?hs ?hne ?hk ?hG ?_; (case hne => assumption); (case hk => assumption); (case hw => assumption); (case hex => exact fun p hp => List.mem_append_left _ hp); (case kB => k_asm); (case kF => k_asm); (case kX => k_asm); (case kN => k_asm); (case kT => k_asm); (case kXB => assumption); (case kTB => assumption); (case kNx => assumption); (case hs => kcj_all); (case hG => assumption); (case hr => exact rhi _); (case hr2 => exact rlo _); (case hc => first | (intro a1 a2; exact any2t.1 (by assumption)) | (intro a1 a2; omega) | (intro _ _; exact Or.inl rfl))); (clear kS' kB'); intro t' s' op' hk' F' N' G' os'))
local macro_rules | `(tactic| wtm_at "z call builtin:len") => `(tactic| (k_here; (with_reducible show wpAny _ _ (call (Value.builtin "len") [Value.ref _]) _ _ _); k_dflt (refine len_cell (lst_in (by with_reducible assumption) (by with_reducible assumption) (by with_reducible assumption)) (by with_reducible assumption) (by with_reducible assumption) ?_); intro _ _))
local macro_rules | `(tactic| wtm_at "z subscriptTail") => `(tactic| (k_here; (with_reducible show wpAny _ _ (subscriptTail _ _ (Value.ref _) (Value.int _ _)) _ _ _); refine item_cell (lst_in (by with_reducible assumption) (by with_reducible assumption) (by with_reducible assumption)) (by with_reducible assumption) (by with_reducible assumption) (by omega) (by omega) ?_; intro _))
local macro_rules | `(tactic| wtm_at "z eval ListComp") => `(tactic| (k_here; (with_reducible show wpAny _ _ (eval (Expr.ListComp _ [⟨Expr.Name _ _, _, [], 0⟩] _ _) _) _ _ _); k_dflt (refine ListComp_M (F₀ := by k_asm) (by with_unfolding_all rfl) (by decide) (by rfl) (by decide) (by rfl) ?_)))
local macro_rules | `(tactic| wtm_at "z ite") => `(tactic| with_reducible refine sne_no ?_)
local macro_rules | `(tactic| wtm_at "z exec Assign cons ListComp") => `(tactic| ((with_reducible show wpAny _ _ (exec (Stmt.Assign [Expr.Tuple _ _ _] (Expr.ListComp _ _ _ _) _) _) _ _ _); refine Assign_Tuple ?_))
theorem turn (w : World) (qual : Str) (scope : Scope) (cdv : Value) (x : Str) (iter : Expr) (body : List Stmt) (r : Stmt) (hb : LawAt w.params qual scope cdv x iter body r) : ∀ (mean : ExcName → Option Value) (mg mb : Str → Option Value) (gd : Option (List Code)) (A₀ : Around) (base h₀ : Heap) (fa : Addr) (ccd : Value) (L I lst : Addr) (m : Str → Option Value) (op ow os oI : Obj) (vs : List Value) (xs : List Int) (way : Int) (tw : Tok) (s s₀ : Shared) (E : Value → Shared → Prop),
    Below A₀ base [] h₀ → Fr h₀ L s.heap m → (fr.heap_1 w.params).In h₀ → News h₀ L s.heap [(nat_lit 1103, op), (L + 1 + 1, ow), (I, oI), (L + 1, os)] → (∀ q ∈ [(L + 1 + 1, ow), (I, oI), (L + 1, os)], q.1 ≠ nat_lit 1103) → KidsOk op → GB s.gens → Top qv (looseW qv loose) mean mg mb h₀ → (fr.heap_1 w.params).In base → Top qv (looseW qv loose) mean mg mb base →
    h₀.IsList lst vs.toArray → IntsAre vs xs → xs.length ≤ 63 → ow.data = .cell (some (.int way tw)) → os.data = .cell (some (.ref lst)) → s.os = s₀.os → (way = 0 ∨ way = 1) →
    wpAny (model PW w) (ktrTop 302 7 gd qual scope L fa ccd (cellsFrom (L + 1) scope.names []) []) (execs body (envX qual scope L fa ccd (cellsFrom (L + 1) scope.names []))) (WayEnd h₀ L (nat_lit 1103) (L + 1 + 1) I [(L + 1, os)] oI s₀) E s := by
  obtain ⟨oc, od, osl, name, params, dV, kV, doc, pm, an, ct, px, p1, cls, hb⟩ := hb
  rw [(by k_is : (fr.heap_1 w.params).lookup (nat_lit 1330) = some _)] at hb
  cases hb
  intro mean mg mb gd A₀ base h₀ fa ccd L I lst m op ow os oI vs xs way tw s s₀ E B F X N hne hk G T XB TB hL hI hx63 hw ho hos hway
  k_steps
  k_dflt (refine LCg.CompSrc.range (by rfl) (by k_asm) (by k_asm) (by assumption) (by first | decide | exact small_one (by l_bnd) (by l_bnd) (by l_bnd) (by l_bnd)) (by first | exact rangeSize_nat _ _ | rfl) (by (rw [PySem.sizeLine_eq]; omega)) ?_; intro g')
  refine kcf_range (fun k => cellv xs (3 * way + k)) (fun k' t' I' oI' C' oC' D' m' ys' h' tk' E' hlo' hhi' hC' hx' F' N' off' ne' => ?_) ?_
  · simp only [LCg.Off3, and_true] at off'
    (show KPfMark → _); intro hMark'
    (try k_fold)
    k_steps
  · (show ∀ ys, _); intro ys' ktC
    obtain ⟨u1, u2, u3, rfl⟩ := three ktC
    (try k_fold)
    k_steps
    all_goals first | k_dflt (exact ⟨rfl, _, _, _, _, by assumption, by assumption, by assumption, by assumption, Eq.trans (by assumption) hos, hw⟩)
end Mine
end -- Tu1
section -- Tu2
open PySem PySem.W PySem.W.X PyProof.Rows PySem.Calls
set_option maxHeartbeats 2000000
namespace Mine
local macro_rules | `(tactic| wtm_at "z call ref") => `(tactic| (k_here; (with_reducible show wpAny _ _ (call (Value.ref (nat_lit 1304)) _) _ _ _); k_dflt (refine' c_tsalt _ _ _ _ _ _ _ ?h0 ?h1 ?h2 ?h3 _ _ _ _ _ _ _ _ _ _ _ _ _ _ _ _ _ _ _ _ _ _ ?kB ?kF ?kX ?kN ?kT ?_; (case kB => k_asm); (case kF => k_asm); (case kX => k_asm); (case kN => k_asm); (case kT => k_asm); (case h0 => first | omega | exact fmod_lo _ (by decide) | exact Int.le_of_lt_add_one (fmod_hi _ (by decide))); (case h1 => first | omega | exact fmod_lo _ (by decide) | exact Int.le_of_lt_add_one (fmod_hi _ (by decide))); (case h2 => omega); (case h3 => omega)); intro v' h' tk' ex' hv' F' N' Nx'; (clear Nx'); obtain ⟨sB', e'⟩ := hv'; subst e'))
local macro_rules | `(tactic| wtm_at "z call ref") => `(tactic| (k_here; (with_reducible show wpAny _ _ (call (Value.ref (nat_lit 1325)) _) _ _ _); k_dflt (refine' c_text_due _ _ _ _ _ _ _ ?h0 ?h1 _ _ _ _ _ _ _ _ _ _ _ _ _ _ _ _ _ _ _ _ _ _ ?kB ?kF ?kX ?kN ?kT ?_; (case kB => k_asm); (case kF => k_asm); (case kX => k_asm); (case kN => k_asm); (case kT => k_asm); (case h0 => first | omega | exact fmod_lo _ (by decide) | exact Int.le_of_lt_add_one (fmod_hi _ (by decide))); (case h1 => first | omega | exact fmod_lo _ (by decide) | exact Int.le_of_lt_add_one (fmod_hi _ (by decide)))); intro v' h' tk' ex' hv' F' N' Nx'; (clear Nx'); obtain ⟨⟨t', e'⟩, e2'⟩ := hv'; subst e'; subst e2'))
local macro_rules | `(tactic| wtm_at "z call ref") => `(tactic| (k_here; (with_reducible show wpAny _ _ (call (Value.ref (nat_lit 1285)) _) _ _ _); k_dflt (refine' c_sec _ _ _ _ _ ?h0 ?h1 _ _ _ _ _ _ _ _ _ _ _ _ _ _ _ _ _ _ _ _ _ _ ?kB ?kF ?kX ?kN ?kT ?_; (case kB => k_asm); (case kF => k_asm); (case kX => k_asm); (case kN => k_asm); (case kT => k_asm); (case h0 => first | omega | exact fmod_lo _ (by decide) | exact Int.le_of_lt_add_one (fmod_hi _ (by decide))); (case h1 => first | omega | exact fmod_lo _ (by decide) | exact Int.le_of_lt_add_one (fmod_hi _ (by decide)))); intro v' h' tk' ex' sS' F' N' Nx'; (replace Nx' := side Nx')))
local macro_rules | `(tactic| wtm_at "z call ref") => `(tactic| (k_here; (with_reducible show wpAny _ _ (call (Value.ref (nat_lit 1280)) _) _ _ _); (with_reducible rename SecP _ _ _ => kS'); (with_reducible rename SaltT _ _ _ => kB'); k_dflt (refine' told_X (told2 _ _ _ _ _ _ _ _ _ _ _ kS' ?hex kB') ?kB ?kF ?kX ?kN ?kT ?kXB ?kTB kS' ?kNx ?hs ?hne ?hk ?hG ?_; (case hne => assumption); (case hk => assumption); (case hex => exact fun p hp => List.mem_append_left _ hp); (case kB => k_asm); (case kF => k_asm); (case kX => k_asm); (case kN => k_asm); (case kT => k_asm); (case kXB => assumption); (case kTB => assumption); (case kNx => assumption); (case hs => kcj_all); (case hG => assumption)); (clear kS' kB'); intro t' s' op' hk' F' N' G' os'))
local macro_rules | `(tactic| wtm_at "z call builtin:len") => `(tactic| (k_here; (with_reducible show wpAny _ _ (call (Value.builtin "len") [Value.ref _]) _ _ _); k_dflt (refine len_cell (lst_in (by with_reducible assumption) (by with_reducible assumption) (by with_reducible assumption)) (by with_reducible assumption) (by with_reducible assumption) ?_); intro _ _))
local macro_rules | `(tactic| wtm_at "z subscriptTail") => `(tactic| (k_here; (with_reducible show wpAny _ _ (subscriptTail _ _ (Value.ref _) (Value.int _ _)) _ _ _); refine item_cell (lst_in (by with_reducible assumption) (by with_reducible assumption) (by with_reducible assumption)) (by with_reducible assumption) (by with_reducible assumption) (by omega) (by omega) ?_; intro _))
local macro_rules | `(tactic| wtm_at "z eval ListComp") => `(tactic| (k_here; (with_reducible show wpAny _ _ (eval (Expr.ListComp _ [⟨Expr.Name _ _, _, [], 0⟩] _ _) _) _ _ _); k_dflt (refine ListComp_M (F₀ := by k_asm) (by with_unfolding_all rfl) (by decide) (by rfl) (by decide) (by rfl) ?_)))
local macro_rules | `(tactic| wtm_at "z ite") => `(tactic| with_reducible refine sne_no ?_)
local macro_rules | `(tactic| wtm_at "z exec Assign cons ListComp") => `(tactic| ((with_reducible show wpAny _ _ (exec (Stmt.Assign [Expr.Tuple _ _ _] (Expr.ListComp _ _ _ _) _) _) _ _ _); refine Assign_Tuple ?_))
theorem turn2 (w : World) (qual : Str) (scope : Scope) (cdv : Value) (x : Str) (iter : Expr) (body : List Stmt) (r : Stmt) (hb : LawAt w.params qual scope cdv x iter body r) : ∀ (mean : ExcName → Option Value) (mg mb : Str → Option Value) (gd : Option (List Code)) (A₀ : Around) (base h₀ : Heap) (fa : Addr) (ccd : Value) (L I lst : Addr) (m : Str → Option Value) (op ow os oI : Obj) (vs : List Value) (xs : List Int) (way : Int) (tw : Tok) (s s₀ : Shared) (E : Value → Shared → Prop),
    Below A₀ base [] h₀ → Fr h₀ L s.heap m → (fr.heap_1 w.params).In h₀ → News h₀ L s.heap [(nat_lit 1103, op), (L + 1 + 1, ow), (I, oI), (L + 1, os)] → (∀ q ∈ [(L + 1 + 1, ow), (I, oI), (L + 1, os)], q.1 ≠ nat_lit 1103) → KidsOk op → GB s.gens → Top qv (looseW qv loose) mean mg mb h₀ → (fr.heap_1 w.params).In base → Top qv (looseW qv loose) mean mg mb base →
    h₀.IsList lst vs.toArray → IntsAre vs xs → xs.length ≤ 63 → ow.data = .cell (some (.int way tw)) → os.data = .cell (some (.ref lst)) → s.os = s₀.os → way = 2 →
    wpAny (model PW w) (ktrTop 302 7 gd qual scope L fa ccd (cellsFrom (L + 1) scope.names []) []) (execs body (envX qual scope L fa ccd (cellsFrom (L + 1) scope.names []))) (WayEnd h₀ L (nat_lit 1103) (L + 1 + 1) I [(L + 1, os)] oI s₀) E s := by
  obtain ⟨oc, od, osl, name, params, dV, kV, doc, pm, an, ct, px, p1, cls, hb⟩ := hb
  rw [(by k_is : (fr.heap_1 w.params).lookup (nat_lit 1330) = some _)] at hb
  cases hb
  intro mean mg mb gd A₀ base h₀ fa ccd L I lst m op ow os oI vs xs way tw s s₀ E B F X N hne hk G T XB TB hL hI hx63 hw ho hos hway
  subst hway
  k_steps
  k_dflt (refine LCg.CompSrc.range (by rfl) (by k_asm) (by k_asm) (by assumption) (by first | decide | exact small_one (by l_bnd) (by l_bnd) (by l_bnd) (by l_bnd)) (by first | exact rangeSize_nat _ _ | rfl) (by (rw [PySem.sizeLine_eq]; omega)) ?_; intro g')
  refine kcf_range (fun k => cellv xs (3 * 2 + k)) (fun k' t' I' oI' C' oC' D' m' ys' h' tk' E' hlo' hhi' hC' hx' F' N' off' ne' => ?_) ?_
  · simp only [LCg.Off3, and_true] at off'
    (show KPfMark → _); intro hMark'
    (try k_fold)
    k_steps
  · (show ∀ ys, _); intro ys' ktC
    obtain ⟨u1, u2, u3, rfl⟩ := three ktC
    (try k_fold)
    k_steps
    all_goals first | k_dflt (exact ⟨rfl, _, _, _, _, by assumption, by assumption, by assumption, by assumption, Eq.trans (by assumption) hos, hw⟩)
end Mine
end -- Tu2
section -- Tu3
open PySem PySem.W PySem.W.X PyProof.Rows PySem.Calls
set_option maxHeartbeats 2000000
namespace Mine
local macro_rules | `(tactic| wtm_at "z call ref") => `(tactic| (k_here; (with_reducible show wpAny _ _ (call (Value.ref (nat_lit 1304)) _) _ _ _); k_dflt (refine' c_tsalt _ _ _ _ _ _ _ ?h0 ?h1 ?h2 ?h3 _ _ _ _ _ _ _ _ _ _ _ _ _ _ _ _ _ _ _ _ _ _ ?kB ?kF ?kX ?kN ?kT ?_; (case kB => k_asm); (case kF => k_asm); (case kX => k_asm); (case kN => k_asm); (case kT => k_asm); (case h0 => first | omega | exact fmod_lo _ (by decide) | exact Int.le_of_lt_add_one (fmod_hi _ (by decide))); (case h1 => first | omega | exact fmod_lo _ (by decide) | exact Int.le_of_lt_add_one (fmod_hi _ (by decide))); (case h2 => omega); (case h3 => omega)); intro v' h' tk' ex' hv' F' N' Nx'; (clear Nx'); obtain ⟨sB', e'⟩ := hv'; subst e'))
local macro_rules | `(tactic| wtm_at "z call ref") => `(tactic| (k_here; (with_reducible show wpAny _ _ (call (Value.ref (nat_lit 1325)) _) _ _ _); k_dflt (refine' c_text_due _ _ _ _ _ _ _ ?h0 ?h1 _ _ _ _ _ _ _ _ _ _ _ _ _ _ _ _ _ _ _ _ _ _ ?kB ?kF ?kX ?kN ?kT ?_; (case kB => k_asm); (case kF => k_asm); (case kX => k_asm); (case kN => k_asm); (case kT => k_asm); (case h0 => first | omega | exact fmod_lo _ (by decide) | exact Int.le_of_lt_add_one (fmod_hi _ (by decide))); (case h1 => first | omega | exact fmod_lo _ (by decide) | exact Int.le_of_lt_add_one (fmod_hi _ (by decide)))); intro v' h' tk' ex' hv' F' N' Nx'; (clear Nx'); obtain ⟨⟨t', e'⟩, e2'⟩ := hv'; subst e'; subst e2'))
local macro_rules | `(tactic| wtm_at "z call ref") => `(tactic| (k_here; (with_reducible show wpAny _ _ (call (Value.ref (nat_lit 1285)) _) _ _ _); k_dflt (refine' c_sec _ _ _ _ _ ?h0 ?h1 _ _ _ _ _ _ _ _ _ _ _ _ _ _ _ _ _ _ _ _ _ _ ?kB ?kF ?kX ?kN ?kT ?_; (case kB => k_asm); (case kF => k_asm); (case kX => k_asm); (case kN => k_asm); (case kT => k_asm); (case h0 => first | omega | exact fmod_lo _ (by decide) | exact Int.le_of_lt_add_one (fmod_hi _ (by decide))); (case h1 => first | omega | exact fmod_lo _ (by decide) | exact Int.le_of_lt_add_one (fmod_hi _ (by decide)))); intro v' h' tk' ex' sS' F' N' Nx'; (replace Nx' := side Nx')))
local macro_rules | `(tactic| wtm_at "z call ref") => `(tactic| (k_here; (with_reducible show wpAny _ _ (call (Value.ref (nat_lit 1280)) _) _ _ _); (with_reducible rename SecP _ _ _ => kS'); (with_reducible rename SaltT _ _ _ => kB'); k_dflt (refine' told_X (told34 _ _ _ _ _ _ _ _ _ _ _ _ _ ?hw kS' ?hex kB' ?h0 ?h1 ?h2 ?h3) ?kB ?kF ?kX ?kN ?kT ?kXB ?kTB kS' ?kNx ?hs ?hne ?hk ?hG ?_; (case hne => assumption); (case hk => assumption); (case hw => assumption); (case hex => exact fun p hp => List.mem_append_left _ hp); (case kB => k_asm); (case kF => k_asm); (case kX => k_asm); (case kN => k_asm); (case kT => k_asm); (case kXB => assumption); (case kTB => assumption); (case kNx => assumption); (case hs => kcj_all); (case hG => assumption); (case h0 => first | exact fun _ => r34a _ | exact fun q => absurd q (by assumption)); (case h1 => first | exact fun _ => r34b _ | exact fun _ => r34c _ | exact fun q => absurd (by assumption) q); (case h2 => first | exact r34d _ | exact r34e _ | exact r34f _); (case h3 => first | exact r34g _ | exact r34h _ | exact r34i _)); (clear kS' kB'); intro t' s' op' hk' F' N' G' os'))
local macro_rules | `(tactic| wtm_at "z call builtin:len") => `(tactic| (k_here; (with_reducible show wpAny _ _ (call (Value.builtin "len") [Value.ref _]) _ _ _); k_dflt (refine len_cell (lst_in (by with_reducible assumption) (by with_reducible assumption) (by with_reducible assumption)) (by with_reducible assumption) (by with_reducible assumption) ?_); intro _ _))
local macro_rules | `(tactic| wtm_at "z subscriptTail") => `(tactic| (k_here; (with_reducible show wpAny _ _ (subscriptTail _ _ (Value.ref _) (Value.int _ _)) _ _ _); refine item_cell (lst_in (by with_reducible assumption) (by with_reducible assumption) (by with_reducible assumption)) (by with_reducible assumption) (by with_reducible assumption) (by omega) (by omega) ?_; intro _))
local macro_rules | `(tactic| wtm_at "z eval ListComp") => `(tactic| (k_here; (with_reducible show wpAny _ _ (eval (Expr.ListComp _ [⟨Expr.Name _ _, _, [], 0⟩] _ _) _) _ _ _); k_dflt (refine ListComp_M (F₀ := by k_asm) (by with_unfolding_all rfl) (by decide) (by rfl) (by decide) (by rfl) ?_)))
local macro_rules | `(tactic| wtm_at "z ite") => `(tactic| with_reducible refine sne_no ?_)
local macro_rules | `(tactic| wtm_at "z exec Assign cons ListComp") => `(tactic| ((with_reducible show wpAny _ _ (exec (Stmt.Assign [Expr.Tuple _ _ _] (Expr.ListComp _ _ _ _) _) _) _ _ _); refine Assign_Tuple ?_))
theorem turn34 (w : World) (qual : Str) (scope : Scope) (cdv : Value) (x : Str) (iter : Expr) (body : List Stmt) (r : Stmt) (hb : LawAt w.params qual scope cdv x iter body r) : ∀ (mean : ExcName → Option Value) (mg mb : Str → Option Value) (gd : Option (List Code)) (A₀ : Around) (base h₀ : Heap) (fa : Addr) (ccd : Value) (L I lst : Addr) (m : Str → Option Value) (op ow os oI : Obj) (vs : List Value) (xs : List Int) (way : Int) (tw : Tok) (s s₀ : Shared) (E : Value → Shared → Prop),
    Below A₀ base [] h₀ → Fr h₀ L s.heap m → (fr.heap_1 w.params).In h₀ → News h₀ L s.heap [(nat_lit 1103, op), (L + 1 + 1, ow), (I, oI), (L + 1, os)] → (∀ q ∈ [(L + 1 + 1, ow), (I, oI), (L + 1, os)], q.1 ≠ nat_lit 1103) → KidsOk op → GB s.gens → Top qv (looseW qv loose) mean mg mb h₀ → (fr.heap_1 w.params).In base → Top qv (looseW qv loose) mean mg mb base →
    h₀.IsList lst vs.toArray → IntsAre vs xs → xs.length ≤ 63 → ow.data = .cell (some (.int way tw)) → os.data = .cell (some (.ref lst)) → s.os = s₀.os → (way = 3 ∨ way = 4) →
    wpAny (model PW w) (ktrTop 302 7 gd qual scope L fa ccd (cellsFrom (L + 1) scope.names []) []) (execs body (envX qual scope L fa ccd (cellsFrom (L + 1) scope.names []))) (WayEnd h₀ L (nat_lit 1103) (L + 1 + 1) I [(L + 1, os)] oI s₀) E s := by
  obtain ⟨oc, od, osl, name, params, dV, kV, doc, pm, an, ct, px, p1, cls, hb⟩ := hb
  rw [(by k_is : (fr.heap_1 w.params).lookup (nat_lit 1330) = some _)] at hb
  cases hb
  intro mean mg mb gd A₀ base h₀ fa ccd L I lst m op ow os oI vs xs way tw s s₀ E B F X N hne hk G T XB TB hL hI hx63 hw ho hos hway
  k_steps
  k_dflt (refine LCg.CompSrc.range (by rfl) (by k_asm) (by k_asm) (by assumption) (by first | decide | exact small_one (by l_bnd) (by l_bnd) (by l_bnd) (by l_bnd)) (by first | exact rangeSize_nat _ _ | rfl) (by (rw [PySem.sizeLine_eq]; omega)) ?_; intro g')
  refine kcf_range (fun k => cellv xs (3 * way + k)) (fun k' t' I' oI' C' oC' D' m' ys' h' tk' E' hlo' hhi' hC' hx' F' N' off' ne' => ?_) ?_
  · simp only [LCg.Off3, and_true] at off'
    (show KPfMark → _); intro hMark'
    (try k_fold)
    k_steps
  · (show ∀ ys, _); intro ys' ktC
    obtain ⟨u1, u2, u3, rfl⟩ := three ktC
    (try k_fold)
    k_steps
    all_goals first | k_dflt (exact ⟨rfl, _, _, _, _, by assumption, by assumption, by assumption, by assumption, Eq.trans (by assumption) hos, hw⟩)
end Mine
end -- Tu3
section -- Lb
open PySem PySem.W PySem.W.X PyProof.Rows PySem.Calls
set_option maxHeartbeats 2000000
namespace Mine
local macro_rules | `(tactic| wtm_at "z exec For") => `(tactic| refine mark ?_)
local macro_rules | `(tactic| wtm_at "z call type:range") => `(tactic| (k_here; (with_reducible show wpAny _ _ (call (Value.type "range") [Value.int _ _]) _ _ _); k_dflt (refine call_range_1 ?_)))
def LawIs (P : Params) (qual : Str) (scope : Scope) (cdv : Value) (x : Str) (iter : Expr) (body : List Stmt) (px p1 : Pos) (r : Stmt) : Prop :=
  ∃ oc od osl name params dV kV doc pm an ct cls, (fr.heap_1 P).lookup (nat_lit 1330) = some ⟨oc, od, .func (fnX name qual params [.For (.Name x px) iter body [] p1, r] scope cls dV kV doc pm an cdv ct), osl⟩
theorem LawIs.at {P : Params} {qual : Str} {scope : Scope} {cdv : Value} {x : Str} {iter : Expr} {body : List Stmt} {px p1 : Pos} {r : Stmt} (h : LawIs P qual scope cdv x iter body px p1 r) : LawAt P qual scope cdv x iter body r :=
  let ⟨oc, od, osl, name, params, dV, kV, doc, pm, an, ct, cls, h⟩ := h; ⟨oc, od, osl, name, params, dV, kV, doc, pm, an, ct, px, p1, cls, h⟩
theorem kids0 : KidsOk o1103 := ⟨#[], rfl, trivial⟩
theorem law_body (w : World) (qual : Str) (scope : Scope) (cdv : Value) (x : Str) (iter : Expr) (body : List Stmt) (px p1 : Pos) (r : Stmt) (hb : LawIs w.params qual scope cdv x iter body px p1 r) : ∀ (mean : ExcName → Option Value) (mg mb : Str → Option Value) (gd : Option (List Code)) (A₀ : Around) (base g : Heap) (fa : Addr) (ccd : Value) (L lst : Addr) (m : Str → Option Value) (ow os : Obj) (vs : List Value) (xs : List Int) (v₀ : Option Value) (s : Shared) (Q : Flow → Shared → Prop) (E : Value → Shared → Prop),
    Below A₀ base [] g → Fr g L s.heap m → (fr.heap_1 w.params).In g → News g L s.heap [(nat_lit 1103, o1103), (L + 1 + 1, ow), (L + 1, os)] → nat_lit 1103 < L → Top qv (looseW qv loose) mean mg mb g → (fr.heap_1 w.params).In base → Top qv (looseW qv loose) mean mg mb base →
    g.IsList lst vs.toArray → IntsAre vs xs → xs.length ≤ 63 → ow.data = .cell v₀ → os.data = .cell (some (.ref lst)) → GB s.gens →
    PassesOwn (model PW w) (ktrTop 302 7 gd qual scope L fa ccd (cellsFrom (L + 1) scope.names []) []) (envX qual scope L fa ccd (cellsFrom (L + 1) scope.names [])) E →
    (∀ s' m' op', Fr g L s'.heap m' → GB s'.gens → s'.os = s.os → s'.heap.get? (nat_lit 1103) = some op' → KidsOk op' → Q (.ret (.bool true)) s') →
    wpAny (model PW w) (ktrTop 302 7 gd qual scope L fa ccd (cellsFrom (L + 1) scope.names []) []) (execs [.For (.Name x px) iter body [] p1, r] (envX qual scope L fa ccd (cellsFrom (L + 1) scope.names []))) Q E s := by
  have hb1 := hb.at
  obtain ⟨oc, od, osl, name, params, dV, kV, doc, pm, an, ct, cls, hb⟩ := hb
  rw [(by k_is : (fr.heap_1 w.params).lookup (nat_lit 1330) = some _)] at hb
  cases hb
  intro mean mg mb gd A₀ base g fa ccd L lst m ow os vs xs v₀ s Q E B F X N hLP T XB TB hL hI hx63 hw ho hg hE hQ
  refine wpAny_execs_cons ?_
  k_dflt (refine' For_way (n := 5) (cw := L + 1 + 1) F N (by rfl) hw (Nat.ne_of_lt (Nat.lt_succ_of_lt (Nat.lt_succ_of_lt hLP))) ?hne kids0 hg (by rfl) (by decide) ?it ?turn ?fin (by rfl) (by rfl) (by intro _; rfl) hE)
  case hne =>
    intro p hp
    rw [List.mem_singleton.1 hp]
    exact ⟨Nat.ne_of_gt (Nat.lt_succ_of_lt hLP), Nat.ne_of_lt (Nat.lt_succ_self _)⟩
  case it =>
    k_steps
    k_dflt (exact ⟨_, _, _, _, rfl, IsRange.new _ _ _ _ _ _ _, F.push _, News.pushKeep N _, rfl, rfl⟩)
  case turn =>
    intro i m₁ op₁ ow₁ I oI s₁ t hi F₁ N₁ hn₁ hk₁ G₁ o₁ d₁
    have : (i : Int) = 0 ∨ (i : Int) = 1 ∨ (i : Int) = 2 ∨ (i : Int) = 3 ∨ (i : Int) = 4 := by omega
    rcases this with h | h | h | h | h
    · exact turn w _ _ _ _ _ _ _ hb1 mean mg mb gd A₀ base g fa ccd L I lst m₁ op₁ ow₁ os oI vs xs i t s₁ s E B F₁ X N₁ hn₁ hk₁ G₁ T XB TB hL hI hx63 d₁ ho o₁ (.inl h)
    · exact turn w _ _ _ _ _ _ _ hb1 mean mg mb gd A₀ base g fa ccd L I lst m₁ op₁ ow₁ os oI vs xs i t s₁ s E B F₁ X N₁ hn₁ hk₁ G₁ T XB TB hL hI hx63 d₁ ho o₁ (.inr h)
    · exact turn2 w _ _ _ _ _ _ _ hb1 mean mg mb gd A₀ base g fa ccd L I lst m₁ op₁ ow₁ os oI vs xs i t s₁ s E B F₁ X N₁ hn₁ hk₁ G₁ T XB TB hL hI hx63 d₁ ho o₁ h
    · exact turn34 w _ _ _ _ _ _ _ hb1 mean mg mb gd A₀ base g fa ccd L I lst m₁ op₁ ow₁ os oI vs xs i t s₁ s E B F₁ X N₁ hn₁ hk₁ G₁ T XB TB hL hI hx63 d₁ ho o₁ (.inl h)
    · exact turn34 w _ _ _ _ _ _ _ hb1 mean mg mb gd A₀ base g fa ccd L I lst m₁ op₁ ow₁ os oI vs xs i t s₁ s E B F₁ X N₁ hn₁ hk₁ G₁ T XB TB hL hI hx63 d₁ ho o₁ (.inr h)
  case fin =>
    intro m' s' op' F' o' G' N' k'
    clear F N
    k_steps
    k_dflt (exact hQ _ _ op' F' G' o' (N' _ (List.mem_cons_self ..)).1 k')
end Mine
end -- Lb
section -- Ho
open PySem PySem.W PySem.W.X PyProof.Rows PySem.Calls
set_option maxHeartbeats 2000000
namespace Mine
/-- a good end of a call whose generators may have grown -/
def GoodNG (c : ClaimW) (cl : PySem.Str → Option Addr) (mean : ExcName → Option Value) (args : List WData) (s₁ : Shared) (res : Result) (s' : Shared) : Prop :=
  GoodWG c cl mean args s₁ res s' ∧ GB s'.gens
theorem GoodNG.ends {c : ClaimW} {s₀ s₁ s' : Shared} {args : List WData} {vs : List Value} {as : List Addr} {r : Result} (hsame : c.same = none) (hwi : c.within = []) (hi : ∀ a b, c.ident a b = true)
    (hrd : ReadsAllW c.records (classAt s₀.heap) s₁.heap vs args as) (hold : ∀ a ∈ as, ∃ o, s₁.heap.get? a = some o) (hos₁ : s₁.os = s₀.os)
    (g : GoodNG c (classAt s₀.heap) (ExcName.means s₀.heap) args s₁ r s') : c.Ends s₀ args vs s₁ r s' ∧ s'.os = s₀.os ∧ GB s'.gens := by
  obtain ⟨⟨hcase, hK, hos, _⟩, hg'⟩ := g
  refine ⟨?_, hos.trans hos₁, hg'⟩
  rcases hcase with ⟨v, d, bs, rfl, hnr, hrv, hpost, hun⟩ | ⟨e, ob, cls, rfl, he, hcls, hpr, hnew⟩
  · exact .inl ⟨v, rfl, hnr, ⟨d, args, bs, as, hrv, hrd.keepsK fun b o e hc => hK.get_of_cls e hc, hpost, fun hu => ⟨(hun hu).1, (hun hu).2, fun a ha hb' => by
      obtain ⟨o, ho⟩ := hold a hb'
      rw [(hun hu).2 a ha] at ho; cases ho⟩, fun _ _ => hi _ _⟩, (fun i hi' => by rw [hsame] at hi'; cases hi'), (fun b o hb' _ _ => hK.old b o hb'), fun i hi' => by rw [hwi] at hi'; cases hi'⟩
  · exact .inr ⟨e, ob, cls, rfl, he, hcls, hpr, hnew, fun b o hb' => hK.old b o hb'⟩
theorem forget_fin {y : GenState} (h : y.forget = .finished) : y = .finished := by
  cases y <;> first | rfl | (simp [GenState.forget] at h)
theorem callFrom_NG {c : ClaimW} {tree : List Value → Sem Fin} {w : World} {s : Shared} {free : Addr → Prop} {gens : Prop} {kept : Heap → Prop} (hz : s.asleep) (hG : s.gens = #[.finished, .finished])
    (hspec : ∀ args, c.pre args = true → WData.layableAll args = true →
      ∀ ord : List DictEntry → List DictEntry, (∀ l, (ord l).Perm l) →
      ∃ vs s₁, layAllW c.records (classAt s.heap) w.params ord args s = some (vs, s₁) ∧
        wpAny (model c.prog w) callerA (tree vs) (fun fin s' => ∃ f, fin = .done f ∧ (c.Ends s args vs s₁ (.ok f) s' ∧ s'.os = s.os ∧ GB s'.gens ∧ kept s'.heap))
          (fun e s' => c.Ends s args vs s₁ (.error e) s' ∧ s'.os = s.os ∧ GB s'.gens ∧ kept s'.heap) s₁) :
    c.CallFrom (fun vs => ⟨tree vs, .builtin "claim.caller" {}, default, []⟩) w free gens kept s := by
  intro args hpre hlay ord hord
  obtain ⟨vs, s₁, hlaid, hcode⟩ := hspec args hpre hlay ord hord
  have hal := layAllW_rest _ _ _ hlaid
  obtain ⟨k, r, s', s'', hrun, hsched, hfo, hcase, hos, hgb, hkp⟩ := thread_ends_bothG (prog := c.prog) (w := w) (t := tree vs) (s := s₁)
    (R := fun r s' => c.Ends s args vs s₁ r s' ∧ s'.os = s.os ∧ GB s'.gens ∧ kept s'.heap)
    (Shared.asleep_of_life hal.2.2.2 hz)
    (wpAny_mono hcode (fun fin s' ⟨f, e, h1, h2, h3, h4⟩ => ⟨f, e, ⟨h1, h2, h3, h4⟩, leftWithCleanup_false_of_bare h3.1⟩) fun e s' ⟨h1, h2, h3, h4⟩ => ⟨⟨h1, h2, h3, h4⟩, leftWithCleanup_false_of_bare h3.1⟩)
  obtain ⟨eh, _, _, eo, eg⟩ := Shared.forget_eq hfo
  have hcase := hcase.congr eh
  rw [← eh] at hkp
  rw [← eo] at hos
  have hlife : s'.heap.life = s.heap.life := (runN_life _ _ _ hrun).trans hal.2.2.2
  have hgen : ∀ (i : Nat) (x : GenState), s.gens[i]? = some x → s'.gens[i]? = some x := fun i x hx => by
    have hi : i < 2 ∧ x = .finished := by
      rw [hG] at hx
      match i, hx with
      | 0, hx => exact ⟨by decide, by simpa using hx.symm⟩
      | 1, hx => exact ⟨by decide, by simpa using hx.symm⟩
    obtain ⟨hi, rfl⟩ := hi
    have z := congrArg (fun a => a[i]?) eg
    simp only [Array.getElem?_map] at z
    rw [hgb.2 i hi] at z
    cases hq : s'.gens[i]? with
    | none => rw [hq] at z; cases z
    | some y =>
      rw [hq] at z
      have z : y.forget = .finished := by simpa [GenState.forget] using z
      rw [forget_fin z]
  refine ⟨vs, s₁, hlaid, k, _, s', hsched, ?_, (fun _ i x hx => hgen i x hx), hkp, by rw [hlife], Shared.rest_eq hos⟩
  rcases hcase with ⟨v, rfl, d1, d2, d3, d4, d5⟩ | ⟨e, ob, cls, rfl, d1, d2, d3, d4, d5⟩
  · exact .inl ⟨v, rfl, d1, d2, d3, fun b o y _ => d4 b o y, d5⟩
  · exact .inr ⟨e, ob, cls, rfl, d1, d2, d3, d4, fun b o y _ => d5 b o y⟩
/-- what the walk must show -/
abbrev WalkNG (q : Program) (loose : List PySem.Str) (XP : (PySem.Str → Option Value) → Heap → Prop) (YP : World → Heap → Prop) (r : RowW) (d : DefRec) (kwd : List (PySem.Str × Expr)) (run : Value → List Value → Sem Value) : Prop :=
  ∀ (w : World) (s₀ s₁ : Shared) (mg mb : PySem.Str → Option Value), Ground q loose r.records XP w s₀ mg mb s₁.heap → YP w s₁.heap → ∀ (a : Addr) (o : Obj) (pm cd doc dV kV : Value), s₁.heap.get? a = some o →
    o.data = .func { docDef d.name d.params d.body d.scope pm cd doc with defaults := dV, kwdefaults := kV } → s₁.heap.CodeRec cd d.name → Dflts mg s₁.heap d.params kwd dV kV → mg d.name = some (.ref a) → s₁.gens = #[.finished, .finished] →
    ∀ (args : List WData) (vals : List Value) (as : List Addr), r.claim.pre args = true → WData.layableAll args = true → ReadsAllW r.records (classAt s₀.heap) s₁.heap vals args as → WellAll w.params s₁.heap vals args → (∀ a ∈ as, (a == sysModules) = false) →
      wpAny (model r.prog w) callerA (run (.ref a) vals) (fun v s' => GoodNG r.claim (classAt s₀.heap) (ExcName.means s₀.heap) args s₁ (.ok (.ret v)) s')
        (fun e s' => GoodNG r.claim (classAt s₀.heap) (ExcName.means s₀.heap) args s₁ (.error e) s') s₁
theorem holds_NG {r : OpenRow} {q : Program} {loose : List PySem.Str} {Xt : Shared → Bool} {XP : (PySem.Str → Option Value) → Heap → Prop} {α : Type} {Yf : Shared → α} {Ya : World → α} {YP : World → Heap → Prop} {d : DefRec} {kwd : List (PySem.Str × Expr)} {N : Nat}
    (left : LeftO r.prog q loose Xt Yf Ya N false) (hY : ∀ w s, Yf s = Ya w → YP w s.heap) (hYg : ∀ w s, Yf s = Ya w → s.gens = #[.finished, .finished]) (hYk : ∀ w h h', YP w h → (∀ b o, h.get? b = some o → h'.get? b = some o) → YP w h')
    (hX : ∀ s, Xt s = true → XP (s.heap.nsMap mainGlobals) s.heap) (hXk : ∀ mg h h', XP mg h → (∀ b o, h.get? b = some o → h'.get? b = some o) → XP mg h')
    (hdef : defOf q r.name = some (d, kwd)) (hp : r.prog.theDef r.name = some (d.params, d.body, d.scope)) (hk : kwWritten? d.params.kwonlyargs d.params.kw_defaults = some kwd) (hRf : ∀ s, Xt s = true → RecFacts r.records s.heap) (hwr : r.writes = false)
    (k1 : r.wellSaid = true) (ok : (chainsOk q && opensWell r.prog && (frees r.toRowW && r.within.isEmpty)) = true) (hb : r.prog.bare) (hw : r.toRowW.promised)
    (call : WalkNG q loose XP YP r.toRowW d kwd fun f vs => PySem.call f vs) : r.Holds := by
  refine ⟨k1, hw, ?_⟩
  obtain ⟨ok, k5⟩ := Bool.and_eq_true_iff.mp ok
  obtain ⟨hch, o1⟩ := Bool.and_eq_true_iff.mp ok
  obtain ⟨k5, k6⟩ := Bool.and_eq_true_iff.mp k5
  obtain ⟨hsame, hu, ha, hap, hm⟩ := frees_parts k5
  refine ⟨⟨hb, o1, by show r.toRowW.makers.map _ = []; rw [hm]; rfl⟩, hw.witness, fun w => ⟨(left.behind hX hch w).1, fun s' hs' => ?_⟩⟩
  obtain ⟨s₀, hf, hg0, s, hT, hz, hgens, hg, G00, y⟩ := (left.behind (XP := fun mg h => XP mg h ∧ RecFacts r.records h) (fun s hs => ⟨hX s hs, hRf s hs⟩) hch w).2 s' hs'
  have G0 : Ground q loose [] XP w s (s.heap.nsMap mainGlobals) (s.heap.nsMap builtinsNs) s.heap := ⟨G00.T, G00.B, G00.D, G00.TE, G00.TD, G00.W, G00.X.1, G00.cls, G00.has, G00.apart, G00.once, G00.K⟩
  have RF := G00.X.2
  refine ⟨s₀, hf, hg0, s, hT, (fun n hn => ?_), RF.1, RF.2.1, ?_⟩
  · obtain rfl : n = r.name := by split at hn <;> simp_all
    exact pinned_of_view hg G0 hdef hp hk
  have G : Ground q loose r.records XP w s _ _ s.heap := RF.ground G0
  have hgs := hYg w s y
  refine callFrom_NG (c := r.toRowW.claim) hz hgs fun args hpre hlay ord hord => ?_
  obtain ⟨⟨vs, s₁⟩, hlaid⟩ := Option.isSome_iff_exists.mp (layAllW_isSome (P := w.params) (ord := ord) G.has args r.args s (pre_splitW hpre).1)
  have keeps := layAllW_keeps _ _ _ hlaid
  have hal := layAllW_rest _ _ _ hlaid
  obtain ⟨as, hrd, hin, hold⟩ := reads_layAllW hord _ _ _ hlaid hlay s₁.heap (fun _ _ e => e)
  have G₁ := G.keeps hXk keeps
  obtain ⟨a, o, pm, cd, doc, dV, kV, h1, h2, h3, h4, h5⟩ := G₁.fn hdef
  have h := call w s s₁ _ _ G₁ (hYk _ _ _ (hY w s y) keeps) a o pm cd doc dV kV h2 h3 h4 h5 (defOf_name hdef ▸ h1) (hal.1.trans hgs) args vs as hpre hlay hrd (well_layAllW hord args s _ hlaid _ fun _ _ e => e)
    (fun a ha => beq_eq_false_iff_ne.mpr fun e => by have := (hin.2.2 a ha).1; subst e; exact absurd G.low (Nat.not_lt.mpr this))
  have hi := ident_freeW hu ha hap
  have hwi : r.toRowW.claim.within = [] := List.isEmpty_iff.mp k6
  refine ⟨vs, s₁, hlaid, wpAny_bind (wpAny_nsGet G₁.T.g ?_)⟩
  rw [h1]
  refine wpAny_bind (wpAny_mono h (fun v s' g => wpAny_pure ⟨_, rfl, ?_⟩) fun e s' g => ?_)
  · have z := g.ends (c := r.toRowW.claim) hsame hwi hi hrd hold hal.2.2.1
    exact ⟨z.1, z.2.1, z.2.2, fun q => by rw [hwr] at q; cases q⟩
  · have z := g.ends (c := r.toRowW.claim) hsame hwi hi hrd hold hal.2.2.1
    exact ⟨z.1, z.2.1, z.2.2, fun q => by rw [hwr] at q; cases q⟩
end Mine
end -- Ho
section -- Lw3
open PySem PySem.W PySem.W.X PyProof.Rows PySem.Calls
set_option maxHeartbeats 4000000
namespace Mine
theorem kf2_tail {P : Params} {h : Heap} (X : (KF2 P).In h) : (fr.heap_1 P).In h := fun a o e => X a o (by
  have hne : a ≠ nat_lit 1103 := fun q => by rw [q, k1103] at e; cases e
  show List.lookup a ((nat_lit 1103, o1103) :: fr.heap_1 P) = _
  rw [List.lookup_cons]
  have : (a == (nat_lit 1103 : Nat)) = false := by simpa using hne
  rw [this]
  exact e)
theorem kf2_head {P : Params} {h : Heap} (X : (KF2 P).In h) : h.get? (nat_lit 1103) = some o1103 := X _ _ (by
  show List.lookup _ ((nat_lit 1103, o1103) :: fr.heap_1 P) = _
  rw [List.lookup_cons]
  rfl)
theorem fr_hid {h h₁ : Heap} {L P : Addr} {m : Str → Option Value} (F : Fr h L h₁ m) : Fr (hideAll h [P]) L h₁ m := ⟨F.ns, fun b o e => F.keep b o (of_hideAll _ e), by rw [hideAll_size]; exact F.above⟩
theorem news_hid {h h₁ : Heap} {L P : Addr} {m : Str → Option Value} {news : List (Addr × Obj)} {o : Obj} (F : Fr h L h₁ m) (N : News h L h₁ news) (ho : h.get? P = some o) : News (hideAll h [P]) L h₁ ((P, o) :: news) := fun p hp => by
  rcases List.mem_cons.mp hp with rfl | hp
  · exact ⟨F.keep _ _ ho, Nat.ne_of_lt (Nat.lt_of_lt_of_le (Heap.lt_size ho) F.above), hideAll_none _ (List.mem_singleton.2 rfl)⟩
  · refine ⟨(N p hp).1, (N p hp).2.1, ?_⟩
    cases hq : (hideAll h [P]).get? p.1 with
    | none => rfl
    | some o' => exact absurd (of_hideAll _ hq) (by rw [(N p hp).2.2]; simp)
theorem lt_hid {h h₁ : Heap} {L P : Addr} {m : Str → Option Value} {o : Obj} (F : Fr h L h₁ m) (ho : h.get? P = some o) : P < L := Nat.lt_of_lt_of_le (Heap.lt_size ho) F.above
theorem list_hid {h : Heap} {P l : Addr} {vs : Array Value} (ho : h.get? P = some o1103) (x : h.IsList l vs) : (hideAll h [P]).IsList l vs := by
  obtain ⟨o, e, c, n, d⟩ := x
  exact ⟨o, hide_one e (ne_of_obj ho e (by rw [d]; simp)), c, n, d⟩
theorem gb0 {g : Array GenState} (h : g = #[.finished, .finished]) : GB g := by
  subst h
  refine ⟨fun y hy => ?_, fun i hi => ?_⟩
  · have : y = .finished := by simpa using hy
    rw [this]; rfl
  · match i, hi with
    | 0, _ => rfl
    | 1, _ => rfl
theorem enterNG {M : Model} {A : Around} {s : Shared} {f : Value} {pos : List Value} {kw : List (PySem.Str × Value)} {c : ClaimW} {cl : PySem.Str → Option Addr} {mean : ExcName → Option Value} {args : List WData} {s₁ : Shared}
    (h : codeAny M A (.call f ⟨pos, kw⟩) (GoodNG c cl mean args s₁) s) : wpAny M A (PySem.call f pos kw) (fun v s' => GoodNG c cl mean args s₁ (.ok (.ret v)) s') (fun e s' => GoodNG c cl mean args s₁ (.error e) s') s :=
  wpAny_call (codeAny_mono h fun res s' g => by rcases g.1.1 with ⟨v, _, _, rfl, _⟩ | ⟨e, _, _, rfl, _⟩ <;> exact g)
end Mine
open Mine in
set_option maxHeartbeats 8000000 in
theorem PySem.Challenge.cw_aj5038_01_holds : PySem.Challenge.rw_aj5038_01.Holds := by
  refine law_from_row fun said => ?_
  w_on
  refine holds_NG (q := Mine.qv) (loose := Mine.loose) (Xt := fun s => xlAt Mine.qv [] s && recOk [] s) (XP := XL Mine.qv []) (Yf := fun s => (Hook.obs (kHook KF2 KA2 KA2_eq) s, s.gens)) (Ya := fun w => (Hook.val (kHook KF2 KA2 KA2_eq) w, #[.finished, .finished])) (YP := Hook.says (kHook KF2 KA2 KA2_eq)) (N := 40000) left2 (fun w s e => Hook.of _ w s (congrArg Prod.fst e)) (fun w s e => congrArg Prod.snd e) (Hook.keeps _) (fun s e => xl_of s (Bool.and_eq_true_iff.mp e).1) XL.keeps (by rfl) (by rfl) (by rfl) (fun s e => recFacts_of (Bool.and_eq_true_iff.mp e).2) (by rfl) (by first | assumption | decide +kernel) f_ok f_hb f_hw ?hc
  w_strict (
    intro w s₀ s₁ mg mb G Y fa o pm cd doc dV kV ho hd hcd hD hmg hg args vals as hpre hlay hrd hwl hlo
    have KX := kf2_tail (kIn_of Y)
    have hP3 := kf2_head (kIn_of Y)
    clear Y
    refine Ground.open G ?_
    intro T B D TE TW
    (try (refine guard_noD D (by decide +kernel) ?_; clear D))
    have TA := at_of_top T
    (try (obtain ⟨_, _, he, B0⟩ := based_of_top T rfl hmg ho hd; have he' : cd = _ := he; subst he'; clear he))
    clear hmg
    wrow_args hpre hlay hrd hwl hlo
    refine enterNG ?_
    w_top on
    have K0 := below_caller (Top.heap T)
    w_call any ho hd hcd hD T F)
  rename Fr _ _ _ _ => F0
  rename News _ _ _ _ => N0'
  rename Heap.IsList _ _ _ => hL0
  rename IntsAre _ _ => hI0
  rename Top _ _ _ _ _ _ => T0
  rename Not _ => hc63
  rename (_ : Obj).data = Data.cell _ => dS
  revert dS
  rename (_ : Obj).data = Data.cell _ => dW
  intro dS
  k_dflt (refine law_body w _ _ _ _ _ _ _ _ _ ⟨_, _, _, _, _, _, _, _, _, _, _, _, by k_is⟩ _ mg mb _ callerA (hideAll s₁.heap [nat_lit 1103]) (hideAll s₁.heap [nat_lit 1103]) _ _ _ _ _ _ _ _ _ _ _ _ _ (below_caller _) (fr_hid F0) (in_hide KX (k1103 _)) (news_hid F0 N0' hP3) (lt_hid F0 hP3) (top_hid KX T0 hP3) (in_hide KX (k1103 _)) (top_hid KX T0 hP3) (list_hid hP3 hL0) hI0 (by omega) dW dS (gb0 hg) ?hE ?hQ)
  case hE => first | passes_own | with_unfolding_all passes_own
  case hQ =>
    intro s' m' op' F' G' o' hop hk'
    refine ⟨⟨.inl ⟨.bool true, .bool true, [], rfl, ?r1, .bool true, ?r2, ?r3⟩, old_hid KX hP3 F' hop hk', o', G'.1⟩, G'⟩
    case r1 => first | exact (fun _ => rfl) | exact raisesW_false (by wrow_none_raised)
    case r2 => first | rfl | exact postW_of (by wrow_shape) (by wtm_val) (by str_meet; first | done | w_fin)
    case r3 => first | exact unshared_nil | exact fun h => absurd h (by decide)
end -- Lw3
