/- Closed facts: which function a method of each type that occurs is, and what a type assertion gives. MADE BY wip/gen_methods.py -/
import Derived.Test.YtbfmmikllelfeaaGreatDoorProg
import Derived.KernelRfl
import Derived.WalkKit
namespace Go.Proofs.YtbfmmikllelfeaaGreatDoor

theorem meth_parseState_blocks (a : Addr) (w : World) : (method 527 193 (.pointer (some a)) "pub-paratext/pub/rscmarkdown.blocks").run Tryz.prog w = .ok (341, .pointer (some a)) w := by kernel_rfl
theorem ahead_parseState_blocks (a : Addr) (w : World) : (nilAhead 527 193 (.pointer (some a)) "pub-paratext/pub/rscmarkdown.blocks").run Tryz.prog w = .ok (some false) w := by kernel_rfl
theorem meth_parseState_pos (a : Addr) (w : World) : (method 527 193 (.pointer (some a)) "pub-paratext/pub/rscmarkdown.pos").run Tryz.prog w = .ok (342, .pointer (some a)) w := by kernel_rfl
theorem ahead_parseState_pos (a : Addr) (w : World) : (nilAhead 527 193 (.pointer (some a)) "pub-paratext/pub/rscmarkdown.pos").run Tryz.prog w = .ok (some false) w := by kernel_rfl
theorem meth_parseState_last (a : Addr) (w : World) : (method 527 193 (.pointer (some a)) "pub-paratext/pub/rscmarkdown.last").run Tryz.prog w = .ok (199, .pointer (some a)) w := by kernel_rfl
theorem ahead_parseState_last (a : Addr) (w : World) : (nilAhead 527 193 (.pointer (some a)) "pub-paratext/pub/rscmarkdown.last").run Tryz.prog w = .ok (some false) w := by kernel_rfl
theorem meth_parseState_deleteLast (a : Addr) (w : World) : (method 527 193 (.pointer (some a)) "pub-paratext/pub/rscmarkdown.deleteLast").run Tryz.prog w = .ok (200, .pointer (some a)) w := by kernel_rfl
theorem ahead_parseState_deleteLast (a : Addr) (w : World) : (nilAhead 527 193 (.pointer (some a)) "pub-paratext/pub/rscmarkdown.deleteLast").run Tryz.prog w = .ok (some false) w := by kernel_rfl
theorem meth_parseState_link (a : Addr) (w : World) : (method 527 193 (.pointer (some a)) "pub-paratext/pub/rscmarkdown.link").run Tryz.prog w = .ok (424, .pointer (some a)) w := by kernel_rfl
theorem ahead_parseState_link (a : Addr) (w : World) : (nilAhead 527 193 (.pointer (some a)) "pub-paratext/pub/rscmarkdown.link").run Tryz.prog w = .ok (some false) w := by kernel_rfl
theorem meth_parseState_defineLink (a : Addr) (w : World) : (method 527 193 (.pointer (some a)) "pub-paratext/pub/rscmarkdown.defineLink").run Tryz.prog w = .ok (423, .pointer (some a)) w := by kernel_rfl
theorem ahead_parseState_defineLink (a : Addr) (w : World) : (nilAhead 527 193 (.pointer (some a)) "pub-paratext/pub/rscmarkdown.defineLink").run Tryz.prog w = .ok (some false) w := by kernel_rfl
theorem meth_parseState_newText (a : Addr) (w : World) : (method 527 193 (.pointer (some a)) "pub-paratext/pub/rscmarkdown.newText").run Tryz.prog w = .ok (196, .pointer (some a)) w := by kernel_rfl
theorem ahead_parseState_newText (a : Addr) (w : World) : (nilAhead 527 193 (.pointer (some a)) "pub-paratext/pub/rscmarkdown.newText").run Tryz.prog w = .ok (some false) w := by kernel_rfl
theorem meth_rootBuilder_build (a : Addr) (w : World) : (method 527 176 (.pointer (some a)) "pub-paratext/pub/rscmarkdown.build").run Tryz.prog w = .ok (339, .pointer (some a)) w := by kernel_rfl
theorem ahead_rootBuilder_build (a : Addr) (w : World) : (nilAhead 527 176 (.pointer (some a)) "pub-paratext/pub/rscmarkdown.build").run Tryz.prog w = .ok (some false) w := by kernel_rfl
theorem meth_rootBuilder_extend (a : Addr) (w : World) : (method 527 176 (.pointer (some a)) "pub-paratext/pub/rscmarkdown.extend").run Tryz.prog w = .ok (340, .pointer (some a)) w := by kernel_rfl
theorem ahead_rootBuilder_extend (a : Addr) (w : World) : (nilAhead 527 176 (.pointer (some a)) "pub-paratext/pub/rscmarkdown.extend").run Tryz.prog w = .ok (some false) w := by kernel_rfl
theorem meth_quoteBuilder_build (a : Addr) (w : World) : (method 527 308 (.pointer (some a)) "pub-paratext/pub/rscmarkdown.build").run Tryz.prog w = .ok (404, .pointer (some a)) w := by kernel_rfl
theorem ahead_quoteBuilder_build (a : Addr) (w : World) : (nilAhead 527 308 (.pointer (some a)) "pub-paratext/pub/rscmarkdown.build").run Tryz.prog w = .ok (some false) w := by kernel_rfl
theorem meth_quoteBuilder_extend (a : Addr) (w : World) : (method 527 308 (.pointer (some a)) "pub-paratext/pub/rscmarkdown.extend").run Tryz.prog w = .ok (405, .pointer (some a)) w := by kernel_rfl
theorem ahead_quoteBuilder_extend (a : Addr) (w : World) : (nilAhead 527 308 (.pointer (some a)) "pub-paratext/pub/rscmarkdown.extend").run Tryz.prog w = .ok (some false) w := by kernel_rfl
theorem meth_listBuilder_build (a : Addr) (w : World) : (method 527 319 (.pointer (some a)) "pub-paratext/pub/rscmarkdown.build").run Tryz.prog w = .ok (406, .pointer (some a)) w := by kernel_rfl
theorem ahead_listBuilder_build (a : Addr) (w : World) : (nilAhead 527 319 (.pointer (some a)) "pub-paratext/pub/rscmarkdown.build").run Tryz.prog w = .ok (some false) w := by kernel_rfl
theorem meth_listBuilder_extend (a : Addr) (w : World) : (method 527 319 (.pointer (some a)) "pub-paratext/pub/rscmarkdown.extend").run Tryz.prog w = .ok (407, .pointer (some a)) w := by kernel_rfl
theorem ahead_listBuilder_extend (a : Addr) (w : World) : (nilAhead 527 319 (.pointer (some a)) "pub-paratext/pub/rscmarkdown.extend").run Tryz.prog w = .ok (some false) w := by kernel_rfl
theorem meth_itemBuilder_build (a : Addr) (w : World) : (method 527 321 (.pointer (some a)) "pub-paratext/pub/rscmarkdown.build").run Tryz.prog w = .ok (408, .pointer (some a)) w := by kernel_rfl
theorem ahead_itemBuilder_build (a : Addr) (w : World) : (nilAhead 527 321 (.pointer (some a)) "pub-paratext/pub/rscmarkdown.build").run Tryz.prog w = .ok (some false) w := by kernel_rfl
theorem meth_itemBuilder_extend (a : Addr) (w : World) : (method 527 321 (.pointer (some a)) "pub-paratext/pub/rscmarkdown.extend").run Tryz.prog w = .ok (409, .pointer (some a)) w := by kernel_rfl
theorem ahead_itemBuilder_extend (a : Addr) (w : World) : (nilAhead 527 321 (.pointer (some a)) "pub-paratext/pub/rscmarkdown.extend").run Tryz.prog w = .ok (some false) w := by kernel_rfl
theorem meth_paraBuilder_build (a : Addr) (w : World) : (method 527 258 (.pointer (some a)) "pub-paratext/pub/rscmarkdown.build").run Tryz.prog w = .ok (392, .pointer (some a)) w := by kernel_rfl
theorem ahead_paraBuilder_build (a : Addr) (w : World) : (nilAhead 527 258 (.pointer (some a)) "pub-paratext/pub/rscmarkdown.build").run Tryz.prog w = .ok (some false) w := by kernel_rfl
theorem meth_paraBuilder_extend (a : Addr) (w : World) : (method 527 258 (.pointer (some a)) "pub-paratext/pub/rscmarkdown.extend").run Tryz.prog w = .ok (393, .pointer (some a)) w := by kernel_rfl
theorem ahead_paraBuilder_extend (a : Addr) (w : World) : (nilAhead 527 258 (.pointer (some a)) "pub-paratext/pub/rscmarkdown.extend").run Tryz.prog w = .ok (some false) w := by kernel_rfl
theorem meth_preBuilder_build (a : Addr) (w : World) : (method 527 332 (.pointer (some a)) "pub-paratext/pub/rscmarkdown.build").run Tryz.prog w = .ok (412, .pointer (some a)) w := by kernel_rfl
theorem ahead_preBuilder_build (a : Addr) (w : World) : (nilAhead 527 332 (.pointer (some a)) "pub-paratext/pub/rscmarkdown.build").run Tryz.prog w = .ok (some false) w := by kernel_rfl
theorem meth_preBuilder_extend (a : Addr) (w : World) : (method 527 332 (.pointer (some a)) "pub-paratext/pub/rscmarkdown.extend").run Tryz.prog w = .ok (413, .pointer (some a)) w := by kernel_rfl
theorem ahead_preBuilder_extend (a : Addr) (w : World) : (nilAhead 527 332 (.pointer (some a)) "pub-paratext/pub/rscmarkdown.extend").run Tryz.prog w = .ok (some false) w := by kernel_rfl
theorem meth_fenceBuilder_build (a : Addr) (w : World) : (method 527 328 (.pointer (some a)) "pub-paratext/pub/rscmarkdown.build").run Tryz.prog w = .ok (410, .pointer (some a)) w := by kernel_rfl
theorem ahead_fenceBuilder_build (a : Addr) (w : World) : (nilAhead 527 328 (.pointer (some a)) "pub-paratext/pub/rscmarkdown.build").run Tryz.prog w = .ok (some false) w := by kernel_rfl
theorem meth_fenceBuilder_extend (a : Addr) (w : World) : (method 527 328 (.pointer (some a)) "pub-paratext/pub/rscmarkdown.extend").run Tryz.prog w = .ok (411, .pointer (some a)) w := by kernel_rfl
theorem ahead_fenceBuilder_extend (a : Addr) (w : World) : (nilAhead 527 328 (.pointer (some a)) "pub-paratext/pub/rscmarkdown.extend").run Tryz.prog w = .ok (some false) w := by kernel_rfl
theorem meth_htmlBuilder_build (a : Addr) (w : World) : (method 527 356 (.pointer (some a)) "pub-paratext/pub/rscmarkdown.build").run Tryz.prog w = .ok (414, .pointer (some a)) w := by kernel_rfl
theorem ahead_htmlBuilder_build (a : Addr) (w : World) : (nilAhead 527 356 (.pointer (some a)) "pub-paratext/pub/rscmarkdown.build").run Tryz.prog w = .ok (some false) w := by kernel_rfl
theorem meth_htmlBuilder_extend (a : Addr) (w : World) : (method 527 356 (.pointer (some a)) "pub-paratext/pub/rscmarkdown.extend").run Tryz.prog w = .ok (415, .pointer (some a)) w := by kernel_rfl
theorem ahead_htmlBuilder_extend (a : Addr) (w : World) : (nilAhead 527 356 (.pointer (some a)) "pub-paratext/pub/rscmarkdown.extend").run Tryz.prog w = .ok (some false) w := by kernel_rfl
theorem meth_Document_PrintHTML (a : Addr) (w : World) : (method 527 80 (.pointer (some a)) "PrintHTML").run Tryz.prog w = .ok (300, .pointer (some a)) w := by kernel_rfl
theorem ahead_Document_PrintHTML (a : Addr) (w : World) : (nilAhead 527 80 (.pointer (some a)) "PrintHTML").run Tryz.prog w = .ok (some false) w := by kernel_rfl
theorem meth_Document_printMarkdown (a : Addr) (w : World) : (method 527 80 (.pointer (some a)) "pub-paratext/pub/rscmarkdown.printMarkdown").run Tryz.prog w = .ok (420, .pointer (some a)) w := by kernel_rfl
theorem ahead_Document_printMarkdown (a : Addr) (w : World) : (nilAhead 527 80 (.pointer (some a)) "pub-paratext/pub/rscmarkdown.printMarkdown").run Tryz.prog w = .ok (some false) w := by kernel_rfl
theorem meth_Quote_PrintHTML (a : Addr) (w : World) : (method 527 128 (.pointer (some a)) "PrintHTML").run Tryz.prog w = .ok (315, .pointer (some a)) w := by kernel_rfl
theorem ahead_Quote_PrintHTML (a : Addr) (w : World) : (nilAhead 527 128 (.pointer (some a)) "PrintHTML").run Tryz.prog w = .ok (some false) w := by kernel_rfl
theorem meth_Quote_printMarkdown (a : Addr) (w : World) : (method 527 128 (.pointer (some a)) "pub-paratext/pub/rscmarkdown.printMarkdown").run Tryz.prog w = .ok (316, .pointer (some a)) w := by kernel_rfl
theorem ahead_Quote_printMarkdown (a : Addr) (w : World) : (nilAhead 527 128 (.pointer (some a)) "pub-paratext/pub/rscmarkdown.printMarkdown").run Tryz.prog w = .ok (some false) w := by kernel_rfl
theorem meth_List_PrintHTML (a : Addr) (w : World) : (method 527 131 (.pointer (some a)) "PrintHTML").run Tryz.prog w = .ok (317, .pointer (some a)) w := by kernel_rfl
theorem ahead_List_PrintHTML (a : Addr) (w : World) : (nilAhead 527 131 (.pointer (some a)) "PrintHTML").run Tryz.prog w = .ok (some false) w := by kernel_rfl
theorem meth_List_printMarkdown (a : Addr) (w : World) : (method 527 131 (.pointer (some a)) "pub-paratext/pub/rscmarkdown.printMarkdown").run Tryz.prog w = .ok (318, .pointer (some a)) w := by kernel_rfl
theorem ahead_List_printMarkdown (a : Addr) (w : World) : (nilAhead 527 131 (.pointer (some a)) "pub-paratext/pub/rscmarkdown.printMarkdown").run Tryz.prog w = .ok (some false) w := by kernel_rfl
theorem meth_Item_PrintHTML (a : Addr) (w : World) : (method 527 134 (.pointer (some a)) "PrintHTML").run Tryz.prog w = .ok (319, .pointer (some a)) w := by kernel_rfl
theorem ahead_Item_PrintHTML (a : Addr) (w : World) : (nilAhead 527 134 (.pointer (some a)) "PrintHTML").run Tryz.prog w = .ok (some false) w := by kernel_rfl
theorem meth_Item_printMarkdown (a : Addr) (w : World) : (method 527 134 (.pointer (some a)) "pub-paratext/pub/rscmarkdown.printMarkdown").run Tryz.prog w = .ok (320, .pointer (some a)) w := by kernel_rfl
theorem ahead_Item_printMarkdown (a : Addr) (w : World) : (nilAhead 527 134 (.pointer (some a)) "pub-paratext/pub/rscmarkdown.printMarkdown").run Tryz.prog w = .ok (some false) w := by kernel_rfl
theorem meth_Heading_PrintHTML (a : Addr) (w : World) : (method 527 138 (.pointer (some a)) "PrintHTML").run Tryz.prog w = .ok (321, .pointer (some a)) w := by kernel_rfl
theorem ahead_Heading_PrintHTML (a : Addr) (w : World) : (nilAhead 527 138 (.pointer (some a)) "PrintHTML").run Tryz.prog w = .ok (some false) w := by kernel_rfl
theorem meth_Heading_printMarkdown (a : Addr) (w : World) : (method 527 138 (.pointer (some a)) "pub-paratext/pub/rscmarkdown.printMarkdown").run Tryz.prog w = .ok (322, .pointer (some a)) w := by kernel_rfl
theorem ahead_Heading_printMarkdown (a : Addr) (w : World) : (nilAhead 527 138 (.pointer (some a)) "pub-paratext/pub/rscmarkdown.printMarkdown").run Tryz.prog w = .ok (some false) w := by kernel_rfl
theorem meth_Paragraph_PrintHTML (a : Addr) (w : World) : (method 527 145 (.pointer (some a)) "PrintHTML").run Tryz.prog w = .ok (325, .pointer (some a)) w := by kernel_rfl
theorem ahead_Paragraph_PrintHTML (a : Addr) (w : World) : (nilAhead 527 145 (.pointer (some a)) "PrintHTML").run Tryz.prog w = .ok (some false) w := by kernel_rfl
theorem meth_Paragraph_printMarkdown (a : Addr) (w : World) : (method 527 145 (.pointer (some a)) "pub-paratext/pub/rscmarkdown.printMarkdown").run Tryz.prog w = .ok (326, .pointer (some a)) w := by kernel_rfl
theorem ahead_Paragraph_printMarkdown (a : Addr) (w : World) : (nilAhead 527 145 (.pointer (some a)) "pub-paratext/pub/rscmarkdown.printMarkdown").run Tryz.prog w = .ok (some false) w := by kernel_rfl
theorem meth_Text_PrintHTML (a : Addr) (w : World) : (method 527 139 (.pointer (some a)) "PrintHTML").run Tryz.prog w = .ok (323, .pointer (some a)) w := by kernel_rfl
theorem ahead_Text_PrintHTML (a : Addr) (w : World) : (nilAhead 527 139 (.pointer (some a)) "PrintHTML").run Tryz.prog w = .ok (some false) w := by kernel_rfl
theorem meth_Text_printMarkdown (a : Addr) (w : World) : (method 527 139 (.pointer (some a)) "pub-paratext/pub/rscmarkdown.printMarkdown").run Tryz.prog w = .ok (324, .pointer (some a)) w := by kernel_rfl
theorem ahead_Text_printMarkdown (a : Addr) (w : World) : (nilAhead 527 139 (.pointer (some a)) "pub-paratext/pub/rscmarkdown.printMarkdown").run Tryz.prog w = .ok (some false) w := by kernel_rfl
theorem meth_CodeBlock_PrintHTML (a : Addr) (w : World) : (method 527 148 (.pointer (some a)) "PrintHTML").run Tryz.prog w = .ok (327, .pointer (some a)) w := by kernel_rfl
theorem ahead_CodeBlock_PrintHTML (a : Addr) (w : World) : (nilAhead 527 148 (.pointer (some a)) "PrintHTML").run Tryz.prog w = .ok (some false) w := by kernel_rfl
theorem meth_CodeBlock_printMarkdown (a : Addr) (w : World) : (method 527 148 (.pointer (some a)) "pub-paratext/pub/rscmarkdown.printMarkdown").run Tryz.prog w = .ok (328, .pointer (some a)) w := by kernel_rfl
theorem ahead_CodeBlock_printMarkdown (a : Addr) (w : World) : (nilAhead 527 148 (.pointer (some a)) "pub-paratext/pub/rscmarkdown.printMarkdown").run Tryz.prog w = .ok (some false) w := by kernel_rfl
theorem meth_HTMLBlock_PrintHTML (a : Addr) (w : World) : (method 527 151 (.pointer (some a)) "PrintHTML").run Tryz.prog w = .ok (331, .pointer (some a)) w := by kernel_rfl
theorem ahead_HTMLBlock_PrintHTML (a : Addr) (w : World) : (nilAhead 527 151 (.pointer (some a)) "PrintHTML").run Tryz.prog w = .ok (some false) w := by kernel_rfl
theorem meth_HTMLBlock_printMarkdown (a : Addr) (w : World) : (method 527 151 (.pointer (some a)) "pub-paratext/pub/rscmarkdown.printMarkdown").run Tryz.prog w = .ok (332, .pointer (some a)) w := by kernel_rfl
theorem ahead_HTMLBlock_printMarkdown (a : Addr) (w : World) : (nilAhead 527 151 (.pointer (some a)) "pub-paratext/pub/rscmarkdown.printMarkdown").run Tryz.prog w = .ok (some false) w := by kernel_rfl
theorem meth_ThematicBreak_PrintHTML (a : Addr) (w : World) : (method 527 154 (.pointer (some a)) "PrintHTML").run Tryz.prog w = .ok (333, .pointer (some a)) w := by kernel_rfl
theorem ahead_ThematicBreak_PrintHTML (a : Addr) (w : World) : (nilAhead 527 154 (.pointer (some a)) "PrintHTML").run Tryz.prog w = .ok (some false) w := by kernel_rfl
theorem meth_ThematicBreak_printMarkdown (a : Addr) (w : World) : (method 527 154 (.pointer (some a)) "pub-paratext/pub/rscmarkdown.printMarkdown").run Tryz.prog w = .ok (334, .pointer (some a)) w := by kernel_rfl
theorem ahead_ThematicBreak_printMarkdown (a : Addr) (w : World) : (nilAhead 527 154 (.pointer (some a)) "pub-paratext/pub/rscmarkdown.printMarkdown").run Tryz.prog w = .ok (some false) w := by kernel_rfl
theorem meth_Table_PrintHTML (a : Addr) (w : World) : (method 527 156 (.pointer (some a)) "PrintHTML").run Tryz.prog w = .ok (335, .pointer (some a)) w := by kernel_rfl
theorem ahead_Table_PrintHTML (a : Addr) (w : World) : (nilAhead 527 156 (.pointer (some a)) "PrintHTML").run Tryz.prog w = .ok (some false) w := by kernel_rfl
theorem meth_Table_printMarkdown (a : Addr) (w : World) : (method 527 156 (.pointer (some a)) "pub-paratext/pub/rscmarkdown.printMarkdown").run Tryz.prog w = .ok (336, .pointer (some a)) w := by kernel_rfl
theorem ahead_Table_printMarkdown (a : Addr) (w : World) : (nilAhead 527 156 (.pointer (some a)) "pub-paratext/pub/rscmarkdown.printMarkdown").run Tryz.prog w = .ok (some false) w := by kernel_rfl
theorem meth_Empty_PrintHTML (a : Addr) (w : World) : (method 527 163 (.pointer (some a)) "PrintHTML").run Tryz.prog w = .ok (337, .pointer (some a)) w := by kernel_rfl
theorem ahead_Empty_PrintHTML (a : Addr) (w : World) : (nilAhead 527 163 (.pointer (some a)) "PrintHTML").run Tryz.prog w = .ok (some false) w := by kernel_rfl
theorem meth_Empty_printMarkdown (a : Addr) (w : World) : (method 527 163 (.pointer (some a)) "pub-paratext/pub/rscmarkdown.printMarkdown").run Tryz.prog w = .ok (338, .pointer (some a)) w := by kernel_rfl
theorem ahead_Empty_printMarkdown (a : Addr) (w : World) : (nilAhead 527 163 (.pointer (some a)) "pub-paratext/pub/rscmarkdown.printMarkdown").run Tryz.prog w = .ok (some false) w := by kernel_rfl
theorem meth_Plain_PrintHTML (a : Addr) (w : World) : (method 527 218 (.pointer (some a)) "PrintHTML").run Tryz.prog w = .ok (344, .pointer (some a)) w := by kernel_rfl
theorem ahead_Plain_PrintHTML (a : Addr) (w : World) : (nilAhead 527 218 (.pointer (some a)) "PrintHTML").run Tryz.prog w = .ok (some false) w := by kernel_rfl
theorem meth_Plain_PrintText (a : Addr) (w : World) : (method 527 218 (.pointer (some a)) "PrintText").run Tryz.prog w = .ok (345, .pointer (some a)) w := by kernel_rfl
theorem ahead_Plain_PrintText (a : Addr) (w : World) : (nilAhead 527 218 (.pointer (some a)) "PrintText").run Tryz.prog w = .ok (some false) w := by kernel_rfl
theorem meth_Plain_printMarkdown (a : Addr) (w : World) : (method 527 218 (.pointer (some a)) "pub-paratext/pub/rscmarkdown.printMarkdown").run Tryz.prog w = .ok (346, .pointer (some a)) w := by kernel_rfl
theorem ahead_Plain_printMarkdown (a : Addr) (w : World) : (nilAhead 527 218 (.pointer (some a)) "pub-paratext/pub/rscmarkdown.printMarkdown").run Tryz.prog w = .ok (some false) w := by kernel_rfl
theorem meth_SoftBreak_PrintHTML (a : Addr) (w : World) : (method 527 237 (.pointer (some a)) "PrintHTML").run Tryz.prog w = .ok (357, .pointer (some a)) w := by kernel_rfl
theorem ahead_SoftBreak_PrintHTML (a : Addr) (w : World) : (nilAhead 527 237 (.pointer (some a)) "PrintHTML").run Tryz.prog w = .ok (some false) w := by kernel_rfl
theorem meth_SoftBreak_PrintText (a : Addr) (w : World) : (method 527 237 (.pointer (some a)) "PrintText").run Tryz.prog w = .ok (358, .pointer (some a)) w := by kernel_rfl
theorem ahead_SoftBreak_PrintText (a : Addr) (w : World) : (nilAhead 527 237 (.pointer (some a)) "PrintText").run Tryz.prog w = .ok (some false) w := by kernel_rfl
theorem meth_SoftBreak_printMarkdown (a : Addr) (w : World) : (method 527 237 (.pointer (some a)) "pub-paratext/pub/rscmarkdown.printMarkdown").run Tryz.prog w = .ok (359, .pointer (some a)) w := by kernel_rfl
theorem ahead_SoftBreak_printMarkdown (a : Addr) (w : World) : (nilAhead 527 237 (.pointer (some a)) "pub-paratext/pub/rscmarkdown.printMarkdown").run Tryz.prog w = .ok (some false) w := by kernel_rfl
theorem meth_HardBreak_PrintHTML (a : Addr) (w : World) : (method 527 238 (.pointer (some a)) "PrintHTML").run Tryz.prog w = .ok (361, .pointer (some a)) w := by kernel_rfl
theorem ahead_HardBreak_PrintHTML (a : Addr) (w : World) : (nilAhead 527 238 (.pointer (some a)) "PrintHTML").run Tryz.prog w = .ok (some false) w := by kernel_rfl
theorem meth_HardBreak_PrintText (a : Addr) (w : World) : (method 527 238 (.pointer (some a)) "PrintText").run Tryz.prog w = .ok (362, .pointer (some a)) w := by kernel_rfl
theorem ahead_HardBreak_PrintText (a : Addr) (w : World) : (nilAhead 527 238 (.pointer (some a)) "PrintText").run Tryz.prog w = .ok (some false) w := by kernel_rfl
theorem meth_HardBreak_printMarkdown (a : Addr) (w : World) : (method 527 238 (.pointer (some a)) "pub-paratext/pub/rscmarkdown.printMarkdown").run Tryz.prog w = .ok (363, .pointer (some a)) w := by kernel_rfl
theorem ahead_HardBreak_printMarkdown (a : Addr) (w : World) : (nilAhead 527 238 (.pointer (some a)) "pub-paratext/pub/rscmarkdown.printMarkdown").run Tryz.prog w = .ok (some false) w := by kernel_rfl
theorem meth_Code_PrintHTML (a : Addr) (w : World) : (method 527 239 (.pointer (some a)) "PrintHTML").run Tryz.prog w = .ok (365, .pointer (some a)) w := by kernel_rfl
theorem ahead_Code_PrintHTML (a : Addr) (w : World) : (nilAhead 527 239 (.pointer (some a)) "PrintHTML").run Tryz.prog w = .ok (some false) w := by kernel_rfl
theorem meth_Code_PrintText (a : Addr) (w : World) : (method 527 239 (.pointer (some a)) "PrintText").run Tryz.prog w = .ok (366, .pointer (some a)) w := by kernel_rfl
theorem ahead_Code_PrintText (a : Addr) (w : World) : (nilAhead 527 239 (.pointer (some a)) "PrintText").run Tryz.prog w = .ok (some false) w := by kernel_rfl
theorem meth_Code_printMarkdown (a : Addr) (w : World) : (method 527 239 (.pointer (some a)) "pub-paratext/pub/rscmarkdown.printMarkdown").run Tryz.prog w = .ok (367, .pointer (some a)) w := by kernel_rfl
theorem ahead_Code_printMarkdown (a : Addr) (w : World) : (nilAhead 527 239 (.pointer (some a)) "pub-paratext/pub/rscmarkdown.printMarkdown").run Tryz.prog w = .ok (some false) w := by kernel_rfl
theorem meth_Emph_PrintHTML (a : Addr) (w : World) : (method 527 241 (.pointer (some a)) "PrintHTML").run Tryz.prog w = .ok (369, .pointer (some a)) w := by kernel_rfl
theorem ahead_Emph_PrintHTML (a : Addr) (w : World) : (nilAhead 527 241 (.pointer (some a)) "PrintHTML").run Tryz.prog w = .ok (some false) w := by kernel_rfl
theorem meth_Emph_PrintText (a : Addr) (w : World) : (method 527 241 (.pointer (some a)) "PrintText").run Tryz.prog w = .ok (370, .pointer (some a)) w := by kernel_rfl
theorem ahead_Emph_PrintText (a : Addr) (w : World) : (nilAhead 527 241 (.pointer (some a)) "PrintText").run Tryz.prog w = .ok (some false) w := by kernel_rfl
theorem meth_Emph_printMarkdown (a : Addr) (w : World) : (method 527 241 (.pointer (some a)) "pub-paratext/pub/rscmarkdown.printMarkdown").run Tryz.prog w = .ok (371, .pointer (some a)) w := by kernel_rfl
theorem ahead_Emph_printMarkdown (a : Addr) (w : World) : (nilAhead 527 241 (.pointer (some a)) "pub-paratext/pub/rscmarkdown.printMarkdown").run Tryz.prog w = .ok (some false) w := by kernel_rfl
theorem meth_Strong_PrintHTML (a : Addr) (w : World) : (method 527 244 (.pointer (some a)) "PrintHTML").run Tryz.prog w = .ok (373, .pointer (some a)) w := by kernel_rfl
theorem ahead_Strong_PrintHTML (a : Addr) (w : World) : (nilAhead 527 244 (.pointer (some a)) "PrintHTML").run Tryz.prog w = .ok (some false) w := by kernel_rfl
theorem meth_Strong_PrintText (a : Addr) (w : World) : (method 527 244 (.pointer (some a)) "PrintText").run Tryz.prog w = .ok (374, .pointer (some a)) w := by kernel_rfl
theorem ahead_Strong_PrintText (a : Addr) (w : World) : (nilAhead 527 244 (.pointer (some a)) "PrintText").run Tryz.prog w = .ok (some false) w := by kernel_rfl
theorem meth_Strong_printMarkdown (a : Addr) (w : World) : (method 527 244 (.pointer (some a)) "pub-paratext/pub/rscmarkdown.printMarkdown").run Tryz.prog w = .ok (375, .pointer (some a)) w := by kernel_rfl
theorem ahead_Strong_printMarkdown (a : Addr) (w : World) : (nilAhead 527 244 (.pointer (some a)) "pub-paratext/pub/rscmarkdown.printMarkdown").run Tryz.prog w = .ok (some false) w := by kernel_rfl
theorem meth_Del_PrintHTML (a : Addr) (w : World) : (method 527 246 (.pointer (some a)) "PrintHTML").run Tryz.prog w = .ok (377, .pointer (some a)) w := by kernel_rfl
theorem ahead_Del_PrintHTML (a : Addr) (w : World) : (nilAhead 527 246 (.pointer (some a)) "PrintHTML").run Tryz.prog w = .ok (some false) w := by kernel_rfl
theorem meth_Del_PrintText (a : Addr) (w : World) : (method 527 246 (.pointer (some a)) "PrintText").run Tryz.prog w = .ok (378, .pointer (some a)) w := by kernel_rfl
theorem ahead_Del_PrintText (a : Addr) (w : World) : (nilAhead 527 246 (.pointer (some a)) "PrintText").run Tryz.prog w = .ok (some false) w := by kernel_rfl
theorem meth_Del_printMarkdown (a : Addr) (w : World) : (method 527 246 (.pointer (some a)) "pub-paratext/pub/rscmarkdown.printMarkdown").run Tryz.prog w = .ok (379, .pointer (some a)) w := by kernel_rfl
theorem ahead_Del_printMarkdown (a : Addr) (w : World) : (nilAhead 527 246 (.pointer (some a)) "pub-paratext/pub/rscmarkdown.printMarkdown").run Tryz.prog w = .ok (some false) w := by kernel_rfl
theorem meth_Link_PrintHTML (a : Addr) (w : World) : (method 527 118 (.pointer (some a)) "PrintHTML").run Tryz.prog w = .ok (303, .pointer (some a)) w := by kernel_rfl
theorem ahead_Link_PrintHTML (a : Addr) (w : World) : (nilAhead 527 118 (.pointer (some a)) "PrintHTML").run Tryz.prog w = .ok (some false) w := by kernel_rfl
theorem meth_Link_PrintText (a : Addr) (w : World) : (method 527 118 (.pointer (some a)) "PrintText").run Tryz.prog w = .ok (421, .pointer (some a)) w := by kernel_rfl
theorem ahead_Link_PrintText (a : Addr) (w : World) : (nilAhead 527 118 (.pointer (some a)) "PrintText").run Tryz.prog w = .ok (some false) w := by kernel_rfl
theorem meth_Link_printMarkdown (a : Addr) (w : World) : (method 527 118 (.pointer (some a)) "pub-paratext/pub/rscmarkdown.printMarkdown").run Tryz.prog w = .ok (422, .pointer (some a)) w := by kernel_rfl
theorem ahead_Link_printMarkdown (a : Addr) (w : World) : (nilAhead 527 118 (.pointer (some a)) "pub-paratext/pub/rscmarkdown.printMarkdown").run Tryz.prog w = .ok (some false) w := by kernel_rfl
theorem meth_Image_PrintHTML (a : Addr) (w : World) : (method 527 216 (.pointer (some a)) "PrintHTML").run Tryz.prog w = .ok (348, .pointer (some a)) w := by kernel_rfl
theorem ahead_Image_PrintHTML (a : Addr) (w : World) : (nilAhead 527 216 (.pointer (some a)) "PrintHTML").run Tryz.prog w = .ok (some false) w := by kernel_rfl
theorem meth_Image_PrintText (a : Addr) (w : World) : (method 527 216 (.pointer (some a)) "PrintText").run Tryz.prog w = .ok (349, .pointer (some a)) w := by kernel_rfl
theorem ahead_Image_PrintText (a : Addr) (w : World) : (nilAhead 527 216 (.pointer (some a)) "PrintText").run Tryz.prog w = .ok (some false) w := by kernel_rfl
theorem meth_Image_printMarkdown (a : Addr) (w : World) : (method 527 216 (.pointer (some a)) "pub-paratext/pub/rscmarkdown.printMarkdown").run Tryz.prog w = .ok (350, .pointer (some a)) w := by kernel_rfl
theorem ahead_Image_printMarkdown (a : Addr) (w : World) : (nilAhead 527 216 (.pointer (some a)) "pub-paratext/pub/rscmarkdown.printMarkdown").run Tryz.prog w = .ok (some false) w := by kernel_rfl
theorem meth_AutoLink_PrintHTML (a : Addr) (w : World) : (method 527 249 (.pointer (some a)) "PrintHTML").run Tryz.prog w = .ok (381, .pointer (some a)) w := by kernel_rfl
theorem ahead_AutoLink_PrintHTML (a : Addr) (w : World) : (nilAhead 527 249 (.pointer (some a)) "PrintHTML").run Tryz.prog w = .ok (some false) w := by kernel_rfl
theorem meth_AutoLink_PrintText (a : Addr) (w : World) : (method 527 249 (.pointer (some a)) "PrintText").run Tryz.prog w = .ok (382, .pointer (some a)) w := by kernel_rfl
theorem ahead_AutoLink_PrintText (a : Addr) (w : World) : (nilAhead 527 249 (.pointer (some a)) "PrintText").run Tryz.prog w = .ok (some false) w := by kernel_rfl
theorem meth_AutoLink_printMarkdown (a : Addr) (w : World) : (method 527 249 (.pointer (some a)) "pub-paratext/pub/rscmarkdown.printMarkdown").run Tryz.prog w = .ok (383, .pointer (some a)) w := by kernel_rfl
theorem ahead_AutoLink_printMarkdown (a : Addr) (w : World) : (nilAhead 527 249 (.pointer (some a)) "pub-paratext/pub/rscmarkdown.printMarkdown").run Tryz.prog w = .ok (some false) w := by kernel_rfl
theorem meth_HTMLTag_PrintHTML (a : Addr) (w : World) : (method 527 252 (.pointer (some a)) "PrintHTML").run Tryz.prog w = .ok (385, .pointer (some a)) w := by kernel_rfl
theorem ahead_HTMLTag_PrintHTML (a : Addr) (w : World) : (nilAhead 527 252 (.pointer (some a)) "PrintHTML").run Tryz.prog w = .ok (some false) w := by kernel_rfl
theorem meth_HTMLTag_PrintText (a : Addr) (w : World) : (method 527 252 (.pointer (some a)) "PrintText").run Tryz.prog w = .ok (386, .pointer (some a)) w := by kernel_rfl
theorem ahead_HTMLTag_PrintText (a : Addr) (w : World) : (nilAhead 527 252 (.pointer (some a)) "PrintText").run Tryz.prog w = .ok (some false) w := by kernel_rfl
theorem meth_HTMLTag_printMarkdown (a : Addr) (w : World) : (method 527 252 (.pointer (some a)) "pub-paratext/pub/rscmarkdown.printMarkdown").run Tryz.prog w = .ok (387, .pointer (some a)) w := by kernel_rfl
theorem ahead_HTMLTag_printMarkdown (a : Addr) (w : World) : (nilAhead 527 252 (.pointer (some a)) "pub-paratext/pub/rscmarkdown.printMarkdown").run Tryz.prog w = .ok (some false) w := by kernel_rfl
theorem meth_Task_PrintHTML (a : Addr) (w : World) : (method 527 220 (.pointer (some a)) "PrintHTML").run Tryz.prog w = .ok (352, .pointer (some a)) w := by kernel_rfl
theorem ahead_Task_PrintHTML (a : Addr) (w : World) : (nilAhead 527 220 (.pointer (some a)) "PrintHTML").run Tryz.prog w = .ok (some false) w := by kernel_rfl
theorem meth_Task_PrintText (a : Addr) (w : World) : (method 527 220 (.pointer (some a)) "PrintText").run Tryz.prog w = .ok (353, .pointer (some a)) w := by kernel_rfl
theorem ahead_Task_PrintText (a : Addr) (w : World) : (nilAhead 527 220 (.pointer (some a)) "PrintText").run Tryz.prog w = .ok (some false) w := by kernel_rfl
theorem meth_Task_printMarkdown (a : Addr) (w : World) : (method 527 220 (.pointer (some a)) "pub-paratext/pub/rscmarkdown.printMarkdown").run Tryz.prog w = .ok (354, .pointer (some a)) w := by kernel_rfl
theorem ahead_Task_printMarkdown (a : Addr) (w : World) : (nilAhead 527 220 (.pointer (some a)) "pub-paratext/pub/rscmarkdown.printMarkdown").run Tryz.prog w = .ok (some false) w := by kernel_rfl
theorem meth_Emoji_PrintHTML (a : Addr) (w : World) : (method 527 254 (.pointer (some a)) "PrintHTML").run Tryz.prog w = .ok (389, .pointer (some a)) w := by kernel_rfl
theorem ahead_Emoji_PrintHTML (a : Addr) (w : World) : (nilAhead 527 254 (.pointer (some a)) "PrintHTML").run Tryz.prog w = .ok (some false) w := by kernel_rfl
theorem meth_Emoji_PrintText (a : Addr) (w : World) : (method 527 254 (.pointer (some a)) "PrintText").run Tryz.prog w = .ok (390, .pointer (some a)) w := by kernel_rfl
theorem ahead_Emoji_PrintText (a : Addr) (w : World) : (nilAhead 527 254 (.pointer (some a)) "PrintText").run Tryz.prog w = .ok (some false) w := by kernel_rfl
theorem meth_Emoji_printMarkdown (a : Addr) (w : World) : (method 527 254 (.pointer (some a)) "pub-paratext/pub/rscmarkdown.printMarkdown").run Tryz.prog w = .ok (391, .pointer (some a)) w := by kernel_rfl
theorem ahead_Emoji_printMarkdown (a : Addr) (w : World) : (nilAhead 527 254 (.pointer (some a)) "pub-paratext/pub/rscmarkdown.printMarkdown").run Tryz.prog w = .ok (some false) w := by kernel_rfl
theorem ta_buildState_parseState (v : Value) (w : World) : (Instr.typeAssert (.iface 193 v) 417 193 false).run Tryz.prog w = .ok v w := by kernel_rfl
theorem ta_Block_Document (v : Value) (w : World) : (Instr.typeAssert (.iface 80 v) 97 80 false).run Tryz.prog w = .ok v w := by kernel_rfl
theorem ta_Block_Item (v : Value) (w : World) : (Instr.typeAssert (.iface 134 v) 97 134 false).run Tryz.prog w = .ok v w := by kernel_rfl
theorem tb_Block_List (v : Value) (w : World) : (Instr.typeAssert (.iface 131 v) 97 131 true).run Tryz.prog w = .ok (.tuple #[v, .bool true]) w := by kernel_rfl
theorem tb_Block_Document_List (v : Value) (w : World) : (Instr.typeAssert (.iface 80 v) 97 131 true).run Tryz.prog w = .ok (.tuple #[.pointer none, .bool false]) w := by kernel_rfl
theorem tb_Block_Quote_List (v : Value) (w : World) : (Instr.typeAssert (.iface 128 v) 97 131 true).run Tryz.prog w = .ok (.tuple #[.pointer none, .bool false]) w := by kernel_rfl
theorem tb_Block_Item_List (v : Value) (w : World) : (Instr.typeAssert (.iface 134 v) 97 131 true).run Tryz.prog w = .ok (.tuple #[.pointer none, .bool false]) w := by kernel_rfl
theorem tb_Block_Heading_List (v : Value) (w : World) : (Instr.typeAssert (.iface 138 v) 97 131 true).run Tryz.prog w = .ok (.tuple #[.pointer none, .bool false]) w := by kernel_rfl
theorem tb_Block_Paragraph_List (v : Value) (w : World) : (Instr.typeAssert (.iface 145 v) 97 131 true).run Tryz.prog w = .ok (.tuple #[.pointer none, .bool false]) w := by kernel_rfl
theorem tb_Block_Text_List (v : Value) (w : World) : (Instr.typeAssert (.iface 139 v) 97 131 true).run Tryz.prog w = .ok (.tuple #[.pointer none, .bool false]) w := by kernel_rfl
theorem tb_Block_CodeBlock_List (v : Value) (w : World) : (Instr.typeAssert (.iface 148 v) 97 131 true).run Tryz.prog w = .ok (.tuple #[.pointer none, .bool false]) w := by kernel_rfl
theorem tb_Block_HTMLBlock_List (v : Value) (w : World) : (Instr.typeAssert (.iface 151 v) 97 131 true).run Tryz.prog w = .ok (.tuple #[.pointer none, .bool false]) w := by kernel_rfl
theorem tb_Block_ThematicBreak_List (v : Value) (w : World) : (Instr.typeAssert (.iface 154 v) 97 131 true).run Tryz.prog w = .ok (.tuple #[.pointer none, .bool false]) w := by kernel_rfl
theorem tb_Block_Table_List (v : Value) (w : World) : (Instr.typeAssert (.iface 156 v) 97 131 true).run Tryz.prog w = .ok (.tuple #[.pointer none, .bool false]) w := by kernel_rfl
theorem tb_Block_Empty_List (v : Value) (w : World) : (Instr.typeAssert (.iface 163 v) 97 131 true).run Tryz.prog w = .ok (.tuple #[.pointer none, .bool false]) w := by kernel_rfl
theorem tb_Block_Paragraph (v : Value) (w : World) : (Instr.typeAssert (.iface 145 v) 97 145 true).run Tryz.prog w = .ok (.tuple #[v, .bool true]) w := by kernel_rfl
theorem tb_Block_Document_Paragraph (v : Value) (w : World) : (Instr.typeAssert (.iface 80 v) 97 145 true).run Tryz.prog w = .ok (.tuple #[.pointer none, .bool false]) w := by kernel_rfl
theorem tb_Block_Quote_Paragraph (v : Value) (w : World) : (Instr.typeAssert (.iface 128 v) 97 145 true).run Tryz.prog w = .ok (.tuple #[.pointer none, .bool false]) w := by kernel_rfl
theorem tb_Block_List_Paragraph (v : Value) (w : World) : (Instr.typeAssert (.iface 131 v) 97 145 true).run Tryz.prog w = .ok (.tuple #[.pointer none, .bool false]) w := by kernel_rfl
theorem tb_Block_Item_Paragraph (v : Value) (w : World) : (Instr.typeAssert (.iface 134 v) 97 145 true).run Tryz.prog w = .ok (.tuple #[.pointer none, .bool false]) w := by kernel_rfl
theorem tb_Block_Heading_Paragraph (v : Value) (w : World) : (Instr.typeAssert (.iface 138 v) 97 145 true).run Tryz.prog w = .ok (.tuple #[.pointer none, .bool false]) w := by kernel_rfl
theorem tb_Block_Text_Paragraph (v : Value) (w : World) : (Instr.typeAssert (.iface 139 v) 97 145 true).run Tryz.prog w = .ok (.tuple #[.pointer none, .bool false]) w := by kernel_rfl
theorem tb_Block_CodeBlock_Paragraph (v : Value) (w : World) : (Instr.typeAssert (.iface 148 v) 97 145 true).run Tryz.prog w = .ok (.tuple #[.pointer none, .bool false]) w := by kernel_rfl
theorem tb_Block_HTMLBlock_Paragraph (v : Value) (w : World) : (Instr.typeAssert (.iface 151 v) 97 145 true).run Tryz.prog w = .ok (.tuple #[.pointer none, .bool false]) w := by kernel_rfl
theorem tb_Block_ThematicBreak_Paragraph (v : Value) (w : World) : (Instr.typeAssert (.iface 154 v) 97 145 true).run Tryz.prog w = .ok (.tuple #[.pointer none, .bool false]) w := by kernel_rfl
theorem tb_Block_Table_Paragraph (v : Value) (w : World) : (Instr.typeAssert (.iface 156 v) 97 145 true).run Tryz.prog w = .ok (.tuple #[.pointer none, .bool false]) w := by kernel_rfl
theorem tb_Block_Empty_Paragraph (v : Value) (w : World) : (Instr.typeAssert (.iface 163 v) 97 145 true).run Tryz.prog w = .ok (.tuple #[.pointer none, .bool false]) w := by kernel_rfl
theorem tb_Block_ThematicBreak (v : Value) (w : World) : (Instr.typeAssert (.iface 154 v) 97 154 true).run Tryz.prog w = .ok (.tuple #[v, .bool true]) w := by kernel_rfl
theorem tb_Block_Document_ThematicBreak (v : Value) (w : World) : (Instr.typeAssert (.iface 80 v) 97 154 true).run Tryz.prog w = .ok (.tuple #[.pointer none, .bool false]) w := by kernel_rfl
theorem tb_Block_Quote_ThematicBreak (v : Value) (w : World) : (Instr.typeAssert (.iface 128 v) 97 154 true).run Tryz.prog w = .ok (.tuple #[.pointer none, .bool false]) w := by kernel_rfl
theorem tb_Block_List_ThematicBreak (v : Value) (w : World) : (Instr.typeAssert (.iface 131 v) 97 154 true).run Tryz.prog w = .ok (.tuple #[.pointer none, .bool false]) w := by kernel_rfl
theorem tb_Block_Item_ThematicBreak (v : Value) (w : World) : (Instr.typeAssert (.iface 134 v) 97 154 true).run Tryz.prog w = .ok (.tuple #[.pointer none, .bool false]) w := by kernel_rfl
theorem tb_Block_Heading_ThematicBreak (v : Value) (w : World) : (Instr.typeAssert (.iface 138 v) 97 154 true).run Tryz.prog w = .ok (.tuple #[.pointer none, .bool false]) w := by kernel_rfl
theorem tb_Block_Paragraph_ThematicBreak (v : Value) (w : World) : (Instr.typeAssert (.iface 145 v) 97 154 true).run Tryz.prog w = .ok (.tuple #[.pointer none, .bool false]) w := by kernel_rfl
theorem tb_Block_Text_ThematicBreak (v : Value) (w : World) : (Instr.typeAssert (.iface 139 v) 97 154 true).run Tryz.prog w = .ok (.tuple #[.pointer none, .bool false]) w := by kernel_rfl
theorem tb_Block_CodeBlock_ThematicBreak (v : Value) (w : World) : (Instr.typeAssert (.iface 148 v) 97 154 true).run Tryz.prog w = .ok (.tuple #[.pointer none, .bool false]) w := by kernel_rfl
theorem tb_Block_HTMLBlock_ThematicBreak (v : Value) (w : World) : (Instr.typeAssert (.iface 151 v) 97 154 true).run Tryz.prog w = .ok (.tuple #[.pointer none, .bool false]) w := by kernel_rfl
theorem tb_Block_Table_ThematicBreak (v : Value) (w : World) : (Instr.typeAssert (.iface 156 v) 97 154 true).run Tryz.prog w = .ok (.tuple #[.pointer none, .bool false]) w := by kernel_rfl
theorem tb_Block_Empty_ThematicBreak (v : Value) (w : World) : (Instr.typeAssert (.iface 163 v) 97 154 true).run Tryz.prog w = .ok (.tuple #[.pointer none, .bool false]) w := by kernel_rfl
theorem tb_Block_CodeBlock (v : Value) (w : World) : (Instr.typeAssert (.iface 148 v) 97 148 true).run Tryz.prog w = .ok (.tuple #[v, .bool true]) w := by kernel_rfl
theorem tb_Block_Document_CodeBlock (v : Value) (w : World) : (Instr.typeAssert (.iface 80 v) 97 148 true).run Tryz.prog w = .ok (.tuple #[.pointer none, .bool false]) w := by kernel_rfl
theorem tb_Block_Quote_CodeBlock (v : Value) (w : World) : (Instr.typeAssert (.iface 128 v) 97 148 true).run Tryz.prog w = .ok (.tuple #[.pointer none, .bool false]) w := by kernel_rfl
theorem tb_Block_List_CodeBlock (v : Value) (w : World) : (Instr.typeAssert (.iface 131 v) 97 148 true).run Tryz.prog w = .ok (.tuple #[.pointer none, .bool false]) w := by kernel_rfl
theorem tb_Block_Item_CodeBlock (v : Value) (w : World) : (Instr.typeAssert (.iface 134 v) 97 148 true).run Tryz.prog w = .ok (.tuple #[.pointer none, .bool false]) w := by kernel_rfl
theorem tb_Block_Heading_CodeBlock (v : Value) (w : World) : (Instr.typeAssert (.iface 138 v) 97 148 true).run Tryz.prog w = .ok (.tuple #[.pointer none, .bool false]) w := by kernel_rfl
theorem tb_Block_Paragraph_CodeBlock (v : Value) (w : World) : (Instr.typeAssert (.iface 145 v) 97 148 true).run Tryz.prog w = .ok (.tuple #[.pointer none, .bool false]) w := by kernel_rfl
theorem tb_Block_Text_CodeBlock (v : Value) (w : World) : (Instr.typeAssert (.iface 139 v) 97 148 true).run Tryz.prog w = .ok (.tuple #[.pointer none, .bool false]) w := by kernel_rfl
theorem tb_Block_HTMLBlock_CodeBlock (v : Value) (w : World) : (Instr.typeAssert (.iface 151 v) 97 148 true).run Tryz.prog w = .ok (.tuple #[.pointer none, .bool false]) w := by kernel_rfl
theorem tb_Block_ThematicBreak_CodeBlock (v : Value) (w : World) : (Instr.typeAssert (.iface 154 v) 97 148 true).run Tryz.prog w = .ok (.tuple #[.pointer none, .bool false]) w := by kernel_rfl
theorem tb_Block_Table_CodeBlock (v : Value) (w : World) : (Instr.typeAssert (.iface 156 v) 97 148 true).run Tryz.prog w = .ok (.tuple #[.pointer none, .bool false]) w := by kernel_rfl
theorem tb_Block_Empty_CodeBlock (v : Value) (w : World) : (Instr.typeAssert (.iface 163 v) 97 148 true).run Tryz.prog w = .ok (.tuple #[.pointer none, .bool false]) w := by kernel_rfl
theorem tb_Block_Text (v : Value) (w : World) : (Instr.typeAssert (.iface 139 v) 97 139 true).run Tryz.prog w = .ok (.tuple #[v, .bool true]) w := by kernel_rfl
theorem tb_Block_Document_Text (v : Value) (w : World) : (Instr.typeAssert (.iface 80 v) 97 139 true).run Tryz.prog w = .ok (.tuple #[.pointer none, .bool false]) w := by kernel_rfl
theorem tb_Block_Quote_Text (v : Value) (w : World) : (Instr.typeAssert (.iface 128 v) 97 139 true).run Tryz.prog w = .ok (.tuple #[.pointer none, .bool false]) w := by kernel_rfl
theorem tb_Block_List_Text (v : Value) (w : World) : (Instr.typeAssert (.iface 131 v) 97 139 true).run Tryz.prog w = .ok (.tuple #[.pointer none, .bool false]) w := by kernel_rfl
theorem tb_Block_Item_Text (v : Value) (w : World) : (Instr.typeAssert (.iface 134 v) 97 139 true).run Tryz.prog w = .ok (.tuple #[.pointer none, .bool false]) w := by kernel_rfl
theorem tb_Block_Heading_Text (v : Value) (w : World) : (Instr.typeAssert (.iface 138 v) 97 139 true).run Tryz.prog w = .ok (.tuple #[.pointer none, .bool false]) w := by kernel_rfl
theorem tb_Block_Paragraph_Text (v : Value) (w : World) : (Instr.typeAssert (.iface 145 v) 97 139 true).run Tryz.prog w = .ok (.tuple #[.pointer none, .bool false]) w := by kernel_rfl
theorem tb_Block_CodeBlock_Text (v : Value) (w : World) : (Instr.typeAssert (.iface 148 v) 97 139 true).run Tryz.prog w = .ok (.tuple #[.pointer none, .bool false]) w := by kernel_rfl
theorem tb_Block_HTMLBlock_Text (v : Value) (w : World) : (Instr.typeAssert (.iface 151 v) 97 139 true).run Tryz.prog w = .ok (.tuple #[.pointer none, .bool false]) w := by kernel_rfl
theorem tb_Block_ThematicBreak_Text (v : Value) (w : World) : (Instr.typeAssert (.iface 154 v) 97 139 true).run Tryz.prog w = .ok (.tuple #[.pointer none, .bool false]) w := by kernel_rfl
theorem tb_Block_Table_Text (v : Value) (w : World) : (Instr.typeAssert (.iface 156 v) 97 139 true).run Tryz.prog w = .ok (.tuple #[.pointer none, .bool false]) w := by kernel_rfl
theorem tb_Block_Empty_Text (v : Value) (w : World) : (Instr.typeAssert (.iface 163 v) 97 139 true).run Tryz.prog w = .ok (.tuple #[.pointer none, .bool false]) w := by kernel_rfl
theorem tb_blockBuilder_paraBuilder (v : Value) (w : World) : (Instr.typeAssert (.iface 258 v) 195 258 true).run Tryz.prog w = .ok (.tuple #[v, .bool true]) w := by kernel_rfl
theorem tb_blockBuilder_nil_paraBuilder (w : World) : (Instr.typeAssert .nilIface 195 258 true).run Tryz.prog w = .ok (.tuple #[.pointer none, .bool false]) w := by kernel_rfl
theorem tb_blockBuilder_rootBuilder_paraBuilder (v : Value) (w : World) : (Instr.typeAssert (.iface 176 v) 195 258 true).run Tryz.prog w = .ok (.tuple #[.pointer none, .bool false]) w := by kernel_rfl
theorem tb_blockBuilder_quoteBuilder_paraBuilder (v : Value) (w : World) : (Instr.typeAssert (.iface 308 v) 195 258 true).run Tryz.prog w = .ok (.tuple #[.pointer none, .bool false]) w := by kernel_rfl
theorem tb_blockBuilder_listBuilder_paraBuilder (v : Value) (w : World) : (Instr.typeAssert (.iface 319 v) 195 258 true).run Tryz.prog w = .ok (.tuple #[.pointer none, .bool false]) w := by kernel_rfl
theorem tb_blockBuilder_itemBuilder_paraBuilder (v : Value) (w : World) : (Instr.typeAssert (.iface 321 v) 195 258 true).run Tryz.prog w = .ok (.tuple #[.pointer none, .bool false]) w := by kernel_rfl
theorem tb_blockBuilder_preBuilder_paraBuilder (v : Value) (w : World) : (Instr.typeAssert (.iface 332 v) 195 258 true).run Tryz.prog w = .ok (.tuple #[.pointer none, .bool false]) w := by kernel_rfl
theorem tb_blockBuilder_fenceBuilder_paraBuilder (v : Value) (w : World) : (Instr.typeAssert (.iface 328 v) 195 258 true).run Tryz.prog w = .ok (.tuple #[.pointer none, .bool false]) w := by kernel_rfl
theorem tb_blockBuilder_htmlBuilder_paraBuilder (v : Value) (w : World) : (Instr.typeAssert (.iface 356 v) 195 258 true).run Tryz.prog w = .ok (.tuple #[.pointer none, .bool false]) w := by kernel_rfl
theorem tb_blockBuilder_listBuilder (v : Value) (w : World) : (Instr.typeAssert (.iface 319 v) 195 319 true).run Tryz.prog w = .ok (.tuple #[v, .bool true]) w := by kernel_rfl
theorem tb_blockBuilder_nil_listBuilder (w : World) : (Instr.typeAssert .nilIface 195 319 true).run Tryz.prog w = .ok (.tuple #[.pointer none, .bool false]) w := by kernel_rfl
theorem tb_blockBuilder_rootBuilder_listBuilder (v : Value) (w : World) : (Instr.typeAssert (.iface 176 v) 195 319 true).run Tryz.prog w = .ok (.tuple #[.pointer none, .bool false]) w := by kernel_rfl
theorem tb_blockBuilder_quoteBuilder_listBuilder (v : Value) (w : World) : (Instr.typeAssert (.iface 308 v) 195 319 true).run Tryz.prog w = .ok (.tuple #[.pointer none, .bool false]) w := by kernel_rfl
theorem tb_blockBuilder_itemBuilder_listBuilder (v : Value) (w : World) : (Instr.typeAssert (.iface 321 v) 195 319 true).run Tryz.prog w = .ok (.tuple #[.pointer none, .bool false]) w := by kernel_rfl
theorem tb_blockBuilder_paraBuilder_listBuilder (v : Value) (w : World) : (Instr.typeAssert (.iface 258 v) 195 319 true).run Tryz.prog w = .ok (.tuple #[.pointer none, .bool false]) w := by kernel_rfl
theorem tb_blockBuilder_preBuilder_listBuilder (v : Value) (w : World) : (Instr.typeAssert (.iface 332 v) 195 319 true).run Tryz.prog w = .ok (.tuple #[.pointer none, .bool false]) w := by kernel_rfl
theorem tb_blockBuilder_fenceBuilder_listBuilder (v : Value) (w : World) : (Instr.typeAssert (.iface 328 v) 195 319 true).run Tryz.prog w = .ok (.tuple #[.pointer none, .bool false]) w := by kernel_rfl
theorem tb_blockBuilder_htmlBuilder_listBuilder (v : Value) (w : World) : (Instr.typeAssert (.iface 356 v) 195 319 true).run Tryz.prog w = .ok (.tuple #[.pointer none, .bool false]) w := by kernel_rfl

end Go.Proofs.YtbfmmikllelfeaaGreatDoor
