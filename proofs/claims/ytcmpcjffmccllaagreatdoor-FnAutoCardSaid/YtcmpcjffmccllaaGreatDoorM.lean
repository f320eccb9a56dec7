/- Closed facts: which function a method of each type that occurs is, and what a type assertion gives. MADE BY wip/gen_methods.py -/
import Derived.Test.YtcmpcjffmccllaaGreatDoorProg
import Derived.KernelRfl
import Derived.WalkKit
namespace Go.Proofs.YtcmpcjffmccllaaGreatDoor

theorem meth_parseState_blocks (a : Addr) (w : World) : (method 476 117 (.pointer (some a)) "pub-paratext/pub/rscmarkdown.blocks").run Tryz.prog w = .ok (252, .pointer (some a)) w := by kernel_rfl
theorem ahead_parseState_blocks (a : Addr) (w : World) : (nilAhead 476 117 (.pointer (some a)) "pub-paratext/pub/rscmarkdown.blocks").run Tryz.prog w = .ok (some false) w := by kernel_rfl
theorem meth_parseState_pos (a : Addr) (w : World) : (method 476 117 (.pointer (some a)) "pub-paratext/pub/rscmarkdown.pos").run Tryz.prog w = .ok (253, .pointer (some a)) w := by kernel_rfl
theorem ahead_parseState_pos (a : Addr) (w : World) : (nilAhead 476 117 (.pointer (some a)) "pub-paratext/pub/rscmarkdown.pos").run Tryz.prog w = .ok (some false) w := by kernel_rfl
theorem meth_parseState_last (a : Addr) (w : World) : (method 476 117 (.pointer (some a)) "pub-paratext/pub/rscmarkdown.last").run Tryz.prog w = .ok (136, .pointer (some a)) w := by kernel_rfl
theorem ahead_parseState_last (a : Addr) (w : World) : (nilAhead 476 117 (.pointer (some a)) "pub-paratext/pub/rscmarkdown.last").run Tryz.prog w = .ok (some false) w := by kernel_rfl
theorem meth_parseState_deleteLast (a : Addr) (w : World) : (method 476 117 (.pointer (some a)) "pub-paratext/pub/rscmarkdown.deleteLast").run Tryz.prog w = .ok (137, .pointer (some a)) w := by kernel_rfl
theorem ahead_parseState_deleteLast (a : Addr) (w : World) : (nilAhead 476 117 (.pointer (some a)) "pub-paratext/pub/rscmarkdown.deleteLast").run Tryz.prog w = .ok (some false) w := by kernel_rfl
theorem meth_parseState_link (a : Addr) (w : World) : (method 476 117 (.pointer (some a)) "pub-paratext/pub/rscmarkdown.link").run Tryz.prog w = .ok (362, .pointer (some a)) w := by kernel_rfl
theorem ahead_parseState_link (a : Addr) (w : World) : (nilAhead 476 117 (.pointer (some a)) "pub-paratext/pub/rscmarkdown.link").run Tryz.prog w = .ok (some false) w := by kernel_rfl
theorem meth_parseState_defineLink (a : Addr) (w : World) : (method 476 117 (.pointer (some a)) "pub-paratext/pub/rscmarkdown.defineLink").run Tryz.prog w = .ok (361, .pointer (some a)) w := by kernel_rfl
theorem ahead_parseState_defineLink (a : Addr) (w : World) : (nilAhead 476 117 (.pointer (some a)) "pub-paratext/pub/rscmarkdown.defineLink").run Tryz.prog w = .ok (some false) w := by kernel_rfl
theorem meth_parseState_newText (a : Addr) (w : World) : (method 476 117 (.pointer (some a)) "pub-paratext/pub/rscmarkdown.newText").run Tryz.prog w = .ok (133, .pointer (some a)) w := by kernel_rfl
theorem ahead_parseState_newText (a : Addr) (w : World) : (nilAhead 476 117 (.pointer (some a)) "pub-paratext/pub/rscmarkdown.newText").run Tryz.prog w = .ok (some false) w := by kernel_rfl
theorem meth_rootBuilder_build (a : Addr) (w : World) : (method 476 99 (.pointer (some a)) "pub-paratext/pub/rscmarkdown.build").run Tryz.prog w = .ok (240, .pointer (some a)) w := by kernel_rfl
theorem ahead_rootBuilder_build (a : Addr) (w : World) : (nilAhead 476 99 (.pointer (some a)) "pub-paratext/pub/rscmarkdown.build").run Tryz.prog w = .ok (some false) w := by kernel_rfl
theorem meth_rootBuilder_extend (a : Addr) (w : World) : (method 476 99 (.pointer (some a)) "pub-paratext/pub/rscmarkdown.extend").run Tryz.prog w = .ok (241, .pointer (some a)) w := by kernel_rfl
theorem ahead_rootBuilder_extend (a : Addr) (w : World) : (nilAhead 476 99 (.pointer (some a)) "pub-paratext/pub/rscmarkdown.extend").run Tryz.prog w = .ok (some false) w := by kernel_rfl
theorem meth_quoteBuilder_build (a : Addr) (w : World) : (method 476 225 (.pointer (some a)) "pub-paratext/pub/rscmarkdown.build").run Tryz.prog w = .ok (322, .pointer (some a)) w := by kernel_rfl
theorem ahead_quoteBuilder_build (a : Addr) (w : World) : (nilAhead 476 225 (.pointer (some a)) "pub-paratext/pub/rscmarkdown.build").run Tryz.prog w = .ok (some false) w := by kernel_rfl
theorem meth_quoteBuilder_extend (a : Addr) (w : World) : (method 476 225 (.pointer (some a)) "pub-paratext/pub/rscmarkdown.extend").run Tryz.prog w = .ok (323, .pointer (some a)) w := by kernel_rfl
theorem ahead_quoteBuilder_extend (a : Addr) (w : World) : (nilAhead 476 225 (.pointer (some a)) "pub-paratext/pub/rscmarkdown.extend").run Tryz.prog w = .ok (some false) w := by kernel_rfl
theorem meth_listBuilder_build (a : Addr) (w : World) : (method 476 243 (.pointer (some a)) "pub-paratext/pub/rscmarkdown.build").run Tryz.prog w = .ok (328, .pointer (some a)) w := by kernel_rfl
theorem ahead_listBuilder_build (a : Addr) (w : World) : (nilAhead 476 243 (.pointer (some a)) "pub-paratext/pub/rscmarkdown.build").run Tryz.prog w = .ok (some false) w := by kernel_rfl
theorem meth_listBuilder_extend (a : Addr) (w : World) : (method 476 243 (.pointer (some a)) "pub-paratext/pub/rscmarkdown.extend").run Tryz.prog w = .ok (329, .pointer (some a)) w := by kernel_rfl
theorem ahead_listBuilder_extend (a : Addr) (w : World) : (nilAhead 476 243 (.pointer (some a)) "pub-paratext/pub/rscmarkdown.extend").run Tryz.prog w = .ok (some false) w := by kernel_rfl
theorem meth_itemBuilder_build (a : Addr) (w : World) : (method 476 245 (.pointer (some a)) "pub-paratext/pub/rscmarkdown.build").run Tryz.prog w = .ok (330, .pointer (some a)) w := by kernel_rfl
theorem ahead_itemBuilder_build (a : Addr) (w : World) : (nilAhead 476 245 (.pointer (some a)) "pub-paratext/pub/rscmarkdown.build").run Tryz.prog w = .ok (some false) w := by kernel_rfl
theorem meth_itemBuilder_extend (a : Addr) (w : World) : (method 476 245 (.pointer (some a)) "pub-paratext/pub/rscmarkdown.extend").run Tryz.prog w = .ok (331, .pointer (some a)) w := by kernel_rfl
theorem ahead_itemBuilder_extend (a : Addr) (w : World) : (nilAhead 476 245 (.pointer (some a)) "pub-paratext/pub/rscmarkdown.extend").run Tryz.prog w = .ok (some false) w := by kernel_rfl
theorem meth_paraBuilder_build (a : Addr) (w : World) : (method 476 163 (.pointer (some a)) "pub-paratext/pub/rscmarkdown.build").run Tryz.prog w = .ok (281, .pointer (some a)) w := by kernel_rfl
theorem ahead_paraBuilder_build (a : Addr) (w : World) : (nilAhead 476 163 (.pointer (some a)) "pub-paratext/pub/rscmarkdown.build").run Tryz.prog w = .ok (some false) w := by kernel_rfl
theorem meth_paraBuilder_extend (a : Addr) (w : World) : (method 476 163 (.pointer (some a)) "pub-paratext/pub/rscmarkdown.extend").run Tryz.prog w = .ok (282, .pointer (some a)) w := by kernel_rfl
theorem ahead_paraBuilder_extend (a : Addr) (w : World) : (nilAhead 476 163 (.pointer (some a)) "pub-paratext/pub/rscmarkdown.extend").run Tryz.prog w = .ok (some false) w := by kernel_rfl
theorem meth_preBuilder_build (a : Addr) (w : World) : (method 476 256 (.pointer (some a)) "pub-paratext/pub/rscmarkdown.build").run Tryz.prog w = .ok (334, .pointer (some a)) w := by kernel_rfl
theorem ahead_preBuilder_build (a : Addr) (w : World) : (nilAhead 476 256 (.pointer (some a)) "pub-paratext/pub/rscmarkdown.build").run Tryz.prog w = .ok (some false) w := by kernel_rfl
theorem meth_preBuilder_extend (a : Addr) (w : World) : (method 476 256 (.pointer (some a)) "pub-paratext/pub/rscmarkdown.extend").run Tryz.prog w = .ok (335, .pointer (some a)) w := by kernel_rfl
theorem ahead_preBuilder_extend (a : Addr) (w : World) : (nilAhead 476 256 (.pointer (some a)) "pub-paratext/pub/rscmarkdown.extend").run Tryz.prog w = .ok (some false) w := by kernel_rfl
theorem meth_fenceBuilder_build (a : Addr) (w : World) : (method 476 252 (.pointer (some a)) "pub-paratext/pub/rscmarkdown.build").run Tryz.prog w = .ok (332, .pointer (some a)) w := by kernel_rfl
theorem ahead_fenceBuilder_build (a : Addr) (w : World) : (nilAhead 476 252 (.pointer (some a)) "pub-paratext/pub/rscmarkdown.build").run Tryz.prog w = .ok (some false) w := by kernel_rfl
theorem meth_fenceBuilder_extend (a : Addr) (w : World) : (method 476 252 (.pointer (some a)) "pub-paratext/pub/rscmarkdown.extend").run Tryz.prog w = .ok (333, .pointer (some a)) w := by kernel_rfl
theorem ahead_fenceBuilder_extend (a : Addr) (w : World) : (nilAhead 476 252 (.pointer (some a)) "pub-paratext/pub/rscmarkdown.extend").run Tryz.prog w = .ok (some false) w := by kernel_rfl
theorem meth_htmlBuilder_build (a : Addr) (w : World) : (method 476 283 (.pointer (some a)) "pub-paratext/pub/rscmarkdown.build").run Tryz.prog w = .ok (342, .pointer (some a)) w := by kernel_rfl
theorem ahead_htmlBuilder_build (a : Addr) (w : World) : (nilAhead 476 283 (.pointer (some a)) "pub-paratext/pub/rscmarkdown.build").run Tryz.prog w = .ok (some false) w := by kernel_rfl
theorem meth_htmlBuilder_extend (a : Addr) (w : World) : (method 476 283 (.pointer (some a)) "pub-paratext/pub/rscmarkdown.extend").run Tryz.prog w = .ok (343, .pointer (some a)) w := by kernel_rfl
theorem ahead_htmlBuilder_extend (a : Addr) (w : World) : (nilAhead 476 283 (.pointer (some a)) "pub-paratext/pub/rscmarkdown.extend").run Tryz.prog w = .ok (some false) w := by kernel_rfl
theorem meth_Document_PrintHTML (a : Addr) (w : World) : (method 476 44 (.pointer (some a)) "PrintHTML").run Tryz.prog w = .ok (237, .pointer (some a)) w := by kernel_rfl
theorem ahead_Document_PrintHTML (a : Addr) (w : World) : (nilAhead 476 44 (.pointer (some a)) "PrintHTML").run Tryz.prog w = .ok (some false) w := by kernel_rfl
theorem meth_Document_printMarkdown (a : Addr) (w : World) : (method 476 44 (.pointer (some a)) "pub-paratext/pub/rscmarkdown.printMarkdown").run Tryz.prog w = .ok (360, .pointer (some a)) w := by kernel_rfl
theorem ahead_Document_printMarkdown (a : Addr) (w : World) : (nilAhead 476 44 (.pointer (some a)) "pub-paratext/pub/rscmarkdown.printMarkdown").run Tryz.prog w = .ok (some false) w := by kernel_rfl
theorem meth_Quote_PrintHTML (a : Addr) (w : World) : (method 476 366 (.pointer (some a)) "PrintHTML").run Tryz.prog w = .ok (356, .pointer (some a)) w := by kernel_rfl
theorem ahead_Quote_PrintHTML (a : Addr) (w : World) : (nilAhead 476 366 (.pointer (some a)) "PrintHTML").run Tryz.prog w = .ok (some false) w := by kernel_rfl
theorem meth_Quote_printMarkdown (a : Addr) (w : World) : (method 476 366 (.pointer (some a)) "pub-paratext/pub/rscmarkdown.printMarkdown").run Tryz.prog w = .ok (357, .pointer (some a)) w := by kernel_rfl
theorem ahead_Quote_printMarkdown (a : Addr) (w : World) : (nilAhead 476 366 (.pointer (some a)) "pub-paratext/pub/rscmarkdown.printMarkdown").run Tryz.prog w = .ok (some false) w := by kernel_rfl
theorem meth_List_PrintHTML (a : Addr) (w : World) : (method 476 112 (.pointer (some a)) "PrintHTML").run Tryz.prog w = .ok (244, .pointer (some a)) w := by kernel_rfl
theorem ahead_List_PrintHTML (a : Addr) (w : World) : (nilAhead 476 112 (.pointer (some a)) "PrintHTML").run Tryz.prog w = .ok (some false) w := by kernel_rfl
theorem meth_List_printMarkdown (a : Addr) (w : World) : (method 476 112 (.pointer (some a)) "pub-paratext/pub/rscmarkdown.printMarkdown").run Tryz.prog w = .ok (245, .pointer (some a)) w := by kernel_rfl
theorem ahead_List_printMarkdown (a : Addr) (w : World) : (nilAhead 476 112 (.pointer (some a)) "pub-paratext/pub/rscmarkdown.printMarkdown").run Tryz.prog w = .ok (some false) w := by kernel_rfl
theorem meth_Item_PrintHTML (a : Addr) (w : World) : (method 476 151 (.pointer (some a)) "PrintHTML").run Tryz.prog w = .ok (273, .pointer (some a)) w := by kernel_rfl
theorem ahead_Item_PrintHTML (a : Addr) (w : World) : (nilAhead 476 151 (.pointer (some a)) "PrintHTML").run Tryz.prog w = .ok (some false) w := by kernel_rfl
theorem meth_Item_printMarkdown (a : Addr) (w : World) : (method 476 151 (.pointer (some a)) "pub-paratext/pub/rscmarkdown.printMarkdown").run Tryz.prog w = .ok (274, .pointer (some a)) w := by kernel_rfl
theorem ahead_Item_printMarkdown (a : Addr) (w : World) : (nilAhead 476 151 (.pointer (some a)) "pub-paratext/pub/rscmarkdown.printMarkdown").run Tryz.prog w = .ok (some false) w := by kernel_rfl
theorem meth_Heading_PrintHTML (a : Addr) (w : World) : (method 476 233 (.pointer (some a)) "PrintHTML").run Tryz.prog w = .ok (324, .pointer (some a)) w := by kernel_rfl
theorem ahead_Heading_PrintHTML (a : Addr) (w : World) : (nilAhead 476 233 (.pointer (some a)) "PrintHTML").run Tryz.prog w = .ok (some false) w := by kernel_rfl
theorem meth_Heading_printMarkdown (a : Addr) (w : World) : (method 476 233 (.pointer (some a)) "pub-paratext/pub/rscmarkdown.printMarkdown").run Tryz.prog w = .ok (325, .pointer (some a)) w := by kernel_rfl
theorem ahead_Heading_printMarkdown (a : Addr) (w : World) : (nilAhead 476 233 (.pointer (some a)) "pub-paratext/pub/rscmarkdown.printMarkdown").run Tryz.prog w = .ok (some false) w := by kernel_rfl
theorem meth_Paragraph_PrintHTML (a : Addr) (w : World) : (method 476 154 (.pointer (some a)) "PrintHTML").run Tryz.prog w = .ok (275, .pointer (some a)) w := by kernel_rfl
theorem ahead_Paragraph_PrintHTML (a : Addr) (w : World) : (nilAhead 476 154 (.pointer (some a)) "PrintHTML").run Tryz.prog w = .ok (some false) w := by kernel_rfl
theorem meth_Paragraph_printMarkdown (a : Addr) (w : World) : (method 476 154 (.pointer (some a)) "pub-paratext/pub/rscmarkdown.printMarkdown").run Tryz.prog w = .ok (276, .pointer (some a)) w := by kernel_rfl
theorem ahead_Paragraph_printMarkdown (a : Addr) (w : World) : (nilAhead 476 154 (.pointer (some a)) "pub-paratext/pub/rscmarkdown.printMarkdown").run Tryz.prog w = .ok (some false) w := by kernel_rfl
theorem meth_Text_PrintHTML (a : Addr) (w : World) : (method 476 106 (.pointer (some a)) "PrintHTML").run Tryz.prog w = .ok (242, .pointer (some a)) w := by kernel_rfl
theorem ahead_Text_PrintHTML (a : Addr) (w : World) : (nilAhead 476 106 (.pointer (some a)) "PrintHTML").run Tryz.prog w = .ok (some false) w := by kernel_rfl
theorem meth_Text_printMarkdown (a : Addr) (w : World) : (method 476 106 (.pointer (some a)) "pub-paratext/pub/rscmarkdown.printMarkdown").run Tryz.prog w = .ok (243, .pointer (some a)) w := by kernel_rfl
theorem ahead_Text_printMarkdown (a : Addr) (w : World) : (nilAhead 476 106 (.pointer (some a)) "pub-paratext/pub/rscmarkdown.printMarkdown").run Tryz.prog w = .ok (some false) w := by kernel_rfl
theorem meth_CodeBlock_PrintHTML (a : Addr) (w : World) : (method 476 262 (.pointer (some a)) "PrintHTML").run Tryz.prog w = .ok (336, .pointer (some a)) w := by kernel_rfl
theorem ahead_CodeBlock_PrintHTML (a : Addr) (w : World) : (nilAhead 476 262 (.pointer (some a)) "PrintHTML").run Tryz.prog w = .ok (some false) w := by kernel_rfl
theorem meth_CodeBlock_printMarkdown (a : Addr) (w : World) : (method 476 262 (.pointer (some a)) "pub-paratext/pub/rscmarkdown.printMarkdown").run Tryz.prog w = .ok (337, .pointer (some a)) w := by kernel_rfl
theorem ahead_CodeBlock_printMarkdown (a : Addr) (w : World) : (nilAhead 476 262 (.pointer (some a)) "pub-paratext/pub/rscmarkdown.printMarkdown").run Tryz.prog w = .ok (some false) w := by kernel_rfl
theorem meth_HTMLBlock_PrintHTML (a : Addr) (w : World) : (method 476 371 (.pointer (some a)) "PrintHTML").run Tryz.prog w = .ok (358, .pointer (some a)) w := by kernel_rfl
theorem ahead_HTMLBlock_PrintHTML (a : Addr) (w : World) : (nilAhead 476 371 (.pointer (some a)) "PrintHTML").run Tryz.prog w = .ok (some false) w := by kernel_rfl
theorem meth_HTMLBlock_printMarkdown (a : Addr) (w : World) : (method 476 371 (.pointer (some a)) "pub-paratext/pub/rscmarkdown.printMarkdown").run Tryz.prog w = .ok (359, .pointer (some a)) w := by kernel_rfl
theorem ahead_HTMLBlock_printMarkdown (a : Addr) (w : World) : (nilAhead 476 371 (.pointer (some a)) "pub-paratext/pub/rscmarkdown.printMarkdown").run Tryz.prog w = .ok (some false) w := by kernel_rfl
theorem meth_ThematicBreak_PrintHTML (a : Addr) (w : World) : (method 476 240 (.pointer (some a)) "PrintHTML").run Tryz.prog w = .ok (326, .pointer (some a)) w := by kernel_rfl
theorem ahead_ThematicBreak_PrintHTML (a : Addr) (w : World) : (nilAhead 476 240 (.pointer (some a)) "PrintHTML").run Tryz.prog w = .ok (some false) w := by kernel_rfl
theorem meth_ThematicBreak_printMarkdown (a : Addr) (w : World) : (method 476 240 (.pointer (some a)) "pub-paratext/pub/rscmarkdown.printMarkdown").run Tryz.prog w = .ok (327, .pointer (some a)) w := by kernel_rfl
theorem ahead_ThematicBreak_printMarkdown (a : Addr) (w : World) : (nilAhead 476 240 (.pointer (some a)) "pub-paratext/pub/rscmarkdown.printMarkdown").run Tryz.prog w = .ok (some false) w := by kernel_rfl
theorem meth_Table_PrintHTML (a : Addr) (w : World) : (method 476 357 (.pointer (some a)) "PrintHTML").run Tryz.prog w = .ok (354, .pointer (some a)) w := by kernel_rfl
theorem ahead_Table_PrintHTML (a : Addr) (w : World) : (nilAhead 476 357 (.pointer (some a)) "PrintHTML").run Tryz.prog w = .ok (some false) w := by kernel_rfl
theorem meth_Table_printMarkdown (a : Addr) (w : World) : (method 476 357 (.pointer (some a)) "pub-paratext/pub/rscmarkdown.printMarkdown").run Tryz.prog w = .ok (355, .pointer (some a)) w := by kernel_rfl
theorem ahead_Table_printMarkdown (a : Addr) (w : World) : (nilAhead 476 357 (.pointer (some a)) "pub-paratext/pub/rscmarkdown.printMarkdown").run Tryz.prog w = .ok (some false) w := by kernel_rfl
theorem meth_Empty_PrintHTML (a : Addr) (w : World) : (method 476 354 (.pointer (some a)) "PrintHTML").run Tryz.prog w = .ok (352, .pointer (some a)) w := by kernel_rfl
theorem ahead_Empty_PrintHTML (a : Addr) (w : World) : (nilAhead 476 354 (.pointer (some a)) "PrintHTML").run Tryz.prog w = .ok (some false) w := by kernel_rfl
theorem meth_Empty_printMarkdown (a : Addr) (w : World) : (method 476 354 (.pointer (some a)) "pub-paratext/pub/rscmarkdown.printMarkdown").run Tryz.prog w = .ok (353, .pointer (some a)) w := by kernel_rfl
theorem ahead_Empty_printMarkdown (a : Addr) (w : World) : (nilAhead 476 354 (.pointer (some a)) "pub-paratext/pub/rscmarkdown.printMarkdown").run Tryz.prog w = .ok (some false) w := by kernel_rfl
theorem meth_Plain_PrintHTML (a : Addr) (w : World) : (method 476 157 (.pointer (some a)) "PrintHTML").run Tryz.prog w = .ok (255, .pointer (some a)) w := by kernel_rfl
theorem ahead_Plain_PrintHTML (a : Addr) (w : World) : (nilAhead 476 157 (.pointer (some a)) "PrintHTML").run Tryz.prog w = .ok (some false) w := by kernel_rfl
theorem meth_Plain_PrintText (a : Addr) (w : World) : (method 476 157 (.pointer (some a)) "PrintText").run Tryz.prog w = .ok (256, .pointer (some a)) w := by kernel_rfl
theorem ahead_Plain_PrintText (a : Addr) (w : World) : (nilAhead 476 157 (.pointer (some a)) "PrintText").run Tryz.prog w = .ok (some false) w := by kernel_rfl
theorem meth_Plain_printMarkdown (a : Addr) (w : World) : (method 476 157 (.pointer (some a)) "pub-paratext/pub/rscmarkdown.printMarkdown").run Tryz.prog w = .ok (257, .pointer (some a)) w := by kernel_rfl
theorem ahead_Plain_printMarkdown (a : Addr) (w : World) : (nilAhead 476 157 (.pointer (some a)) "pub-paratext/pub/rscmarkdown.printMarkdown").run Tryz.prog w = .ok (some false) w := by kernel_rfl
theorem meth_SoftBreak_PrintHTML (a : Addr) (w : World) : (method 476 194 (.pointer (some a)) "PrintHTML").run Tryz.prog w = .ok (303, .pointer (some a)) w := by kernel_rfl
theorem ahead_SoftBreak_PrintHTML (a : Addr) (w : World) : (nilAhead 476 194 (.pointer (some a)) "PrintHTML").run Tryz.prog w = .ok (some false) w := by kernel_rfl
theorem meth_SoftBreak_PrintText (a : Addr) (w : World) : (method 476 194 (.pointer (some a)) "PrintText").run Tryz.prog w = .ok (304, .pointer (some a)) w := by kernel_rfl
theorem ahead_SoftBreak_PrintText (a : Addr) (w : World) : (nilAhead 476 194 (.pointer (some a)) "PrintText").run Tryz.prog w = .ok (some false) w := by kernel_rfl
theorem meth_SoftBreak_printMarkdown (a : Addr) (w : World) : (method 476 194 (.pointer (some a)) "pub-paratext/pub/rscmarkdown.printMarkdown").run Tryz.prog w = .ok (305, .pointer (some a)) w := by kernel_rfl
theorem ahead_SoftBreak_printMarkdown (a : Addr) (w : World) : (nilAhead 476 194 (.pointer (some a)) "pub-paratext/pub/rscmarkdown.printMarkdown").run Tryz.prog w = .ok (some false) w := by kernel_rfl
theorem meth_HardBreak_PrintHTML (a : Addr) (w : World) : (method 476 180 (.pointer (some a)) "PrintHTML").run Tryz.prog w = .ok (295, .pointer (some a)) w := by kernel_rfl
theorem ahead_HardBreak_PrintHTML (a : Addr) (w : World) : (nilAhead 476 180 (.pointer (some a)) "PrintHTML").run Tryz.prog w = .ok (some false) w := by kernel_rfl
theorem meth_HardBreak_PrintText (a : Addr) (w : World) : (method 476 180 (.pointer (some a)) "PrintText").run Tryz.prog w = .ok (296, .pointer (some a)) w := by kernel_rfl
theorem ahead_HardBreak_PrintText (a : Addr) (w : World) : (nilAhead 476 180 (.pointer (some a)) "PrintText").run Tryz.prog w = .ok (some false) w := by kernel_rfl
theorem meth_HardBreak_printMarkdown (a : Addr) (w : World) : (method 476 180 (.pointer (some a)) "pub-paratext/pub/rscmarkdown.printMarkdown").run Tryz.prog w = .ok (297, .pointer (some a)) w := by kernel_rfl
theorem ahead_HardBreak_printMarkdown (a : Addr) (w : World) : (nilAhead 476 180 (.pointer (some a)) "pub-paratext/pub/rscmarkdown.printMarkdown").run Tryz.prog w = .ok (some false) w := by kernel_rfl
theorem meth_Code_PrintHTML (a : Addr) (w : World) : (method 476 183 (.pointer (some a)) "PrintHTML").run Tryz.prog w = .ok (299, .pointer (some a)) w := by kernel_rfl
theorem ahead_Code_PrintHTML (a : Addr) (w : World) : (nilAhead 476 183 (.pointer (some a)) "PrintHTML").run Tryz.prog w = .ok (some false) w := by kernel_rfl
theorem meth_Code_PrintText (a : Addr) (w : World) : (method 476 183 (.pointer (some a)) "PrintText").run Tryz.prog w = .ok (300, .pointer (some a)) w := by kernel_rfl
theorem ahead_Code_PrintText (a : Addr) (w : World) : (nilAhead 476 183 (.pointer (some a)) "PrintText").run Tryz.prog w = .ok (some false) w := by kernel_rfl
theorem meth_Code_printMarkdown (a : Addr) (w : World) : (method 476 183 (.pointer (some a)) "pub-paratext/pub/rscmarkdown.printMarkdown").run Tryz.prog w = .ok (301, .pointer (some a)) w := by kernel_rfl
theorem ahead_Code_printMarkdown (a : Addr) (w : World) : (nilAhead 476 183 (.pointer (some a)) "pub-paratext/pub/rscmarkdown.printMarkdown").run Tryz.prog w = .ok (some false) w := by kernel_rfl
theorem meth_Emph_PrintHTML (a : Addr) (w : World) : (method 476 215 (.pointer (some a)) "PrintHTML").run Tryz.prog w = .ok (311, .pointer (some a)) w := by kernel_rfl
theorem ahead_Emph_PrintHTML (a : Addr) (w : World) : (nilAhead 476 215 (.pointer (some a)) "PrintHTML").run Tryz.prog w = .ok (some false) w := by kernel_rfl
theorem meth_Emph_PrintText (a : Addr) (w : World) : (method 476 215 (.pointer (some a)) "PrintText").run Tryz.prog w = .ok (312, .pointer (some a)) w := by kernel_rfl
theorem ahead_Emph_PrintText (a : Addr) (w : World) : (nilAhead 476 215 (.pointer (some a)) "PrintText").run Tryz.prog w = .ok (some false) w := by kernel_rfl
theorem meth_Emph_printMarkdown (a : Addr) (w : World) : (method 476 215 (.pointer (some a)) "pub-paratext/pub/rscmarkdown.printMarkdown").run Tryz.prog w = .ok (313, .pointer (some a)) w := by kernel_rfl
theorem ahead_Emph_printMarkdown (a : Addr) (w : World) : (nilAhead 476 215 (.pointer (some a)) "pub-paratext/pub/rscmarkdown.printMarkdown").run Tryz.prog w = .ok (some false) w := by kernel_rfl
theorem meth_Strong_PrintHTML (a : Addr) (w : World) : (method 476 219 (.pointer (some a)) "PrintHTML").run Tryz.prog w = .ok (319, .pointer (some a)) w := by kernel_rfl
theorem ahead_Strong_PrintHTML (a : Addr) (w : World) : (nilAhead 476 219 (.pointer (some a)) "PrintHTML").run Tryz.prog w = .ok (some false) w := by kernel_rfl
theorem meth_Strong_PrintText (a : Addr) (w : World) : (method 476 219 (.pointer (some a)) "PrintText").run Tryz.prog w = .ok (320, .pointer (some a)) w := by kernel_rfl
theorem ahead_Strong_PrintText (a : Addr) (w : World) : (nilAhead 476 219 (.pointer (some a)) "PrintText").run Tryz.prog w = .ok (some false) w := by kernel_rfl
theorem meth_Strong_printMarkdown (a : Addr) (w : World) : (method 476 219 (.pointer (some a)) "pub-paratext/pub/rscmarkdown.printMarkdown").run Tryz.prog w = .ok (321, .pointer (some a)) w := by kernel_rfl
theorem ahead_Strong_printMarkdown (a : Addr) (w : World) : (nilAhead 476 219 (.pointer (some a)) "pub-paratext/pub/rscmarkdown.printMarkdown").run Tryz.prog w = .ok (some false) w := by kernel_rfl
theorem meth_Del_PrintHTML (a : Addr) (w : World) : (method 476 218 (.pointer (some a)) "PrintHTML").run Tryz.prog w = .ok (315, .pointer (some a)) w := by kernel_rfl
theorem ahead_Del_PrintHTML (a : Addr) (w : World) : (nilAhead 476 218 (.pointer (some a)) "PrintHTML").run Tryz.prog w = .ok (some false) w := by kernel_rfl
theorem meth_Del_PrintText (a : Addr) (w : World) : (method 476 218 (.pointer (some a)) "PrintText").run Tryz.prog w = .ok (316, .pointer (some a)) w := by kernel_rfl
theorem ahead_Del_PrintText (a : Addr) (w : World) : (nilAhead 476 218 (.pointer (some a)) "PrintText").run Tryz.prog w = .ok (some false) w := by kernel_rfl
theorem meth_Del_printMarkdown (a : Addr) (w : World) : (method 476 218 (.pointer (some a)) "pub-paratext/pub/rscmarkdown.printMarkdown").run Tryz.prog w = .ok (317, .pointer (some a)) w := by kernel_rfl
theorem ahead_Del_printMarkdown (a : Addr) (w : World) : (nilAhead 476 218 (.pointer (some a)) "pub-paratext/pub/rscmarkdown.printMarkdown").run Tryz.prog w = .ok (some false) w := by kernel_rfl
theorem meth_Link_PrintHTML (a : Addr) (w : World) : (method 476 141 (.pointer (some a)) "PrintHTML").run Tryz.prog w = .ok (262, .pointer (some a)) w := by kernel_rfl
theorem ahead_Link_PrintHTML (a : Addr) (w : World) : (nilAhead 476 141 (.pointer (some a)) "PrintHTML").run Tryz.prog w = .ok (some false) w := by kernel_rfl
theorem meth_Link_PrintText (a : Addr) (w : World) : (method 476 141 (.pointer (some a)) "PrintText").run Tryz.prog w = .ok (263, .pointer (some a)) w := by kernel_rfl
theorem ahead_Link_PrintText (a : Addr) (w : World) : (nilAhead 476 141 (.pointer (some a)) "PrintText").run Tryz.prog w = .ok (some false) w := by kernel_rfl
theorem meth_Link_printMarkdown (a : Addr) (w : World) : (method 476 141 (.pointer (some a)) "pub-paratext/pub/rscmarkdown.printMarkdown").run Tryz.prog w = .ok (264, .pointer (some a)) w := by kernel_rfl
theorem ahead_Link_printMarkdown (a : Addr) (w : World) : (nilAhead 476 141 (.pointer (some a)) "pub-paratext/pub/rscmarkdown.printMarkdown").run Tryz.prog w = .ok (some false) w := by kernel_rfl
theorem meth_Image_PrintHTML (a : Addr) (w : World) : (method 476 147 (.pointer (some a)) "PrintHTML").run Tryz.prog w = .ok (269, .pointer (some a)) w := by kernel_rfl
theorem ahead_Image_PrintHTML (a : Addr) (w : World) : (nilAhead 476 147 (.pointer (some a)) "PrintHTML").run Tryz.prog w = .ok (some false) w := by kernel_rfl
theorem meth_Image_PrintText (a : Addr) (w : World) : (method 476 147 (.pointer (some a)) "PrintText").run Tryz.prog w = .ok (270, .pointer (some a)) w := by kernel_rfl
theorem ahead_Image_PrintText (a : Addr) (w : World) : (nilAhead 476 147 (.pointer (some a)) "PrintText").run Tryz.prog w = .ok (some false) w := by kernel_rfl
theorem meth_Image_printMarkdown (a : Addr) (w : World) : (method 476 147 (.pointer (some a)) "pub-paratext/pub/rscmarkdown.printMarkdown").run Tryz.prog w = .ok (271, .pointer (some a)) w := by kernel_rfl
theorem ahead_Image_printMarkdown (a : Addr) (w : World) : (nilAhead 476 147 (.pointer (some a)) "pub-paratext/pub/rscmarkdown.printMarkdown").run Tryz.prog w = .ok (some false) w := by kernel_rfl
theorem meth_AutoLink_PrintHTML (a : Addr) (w : World) : (method 476 263 (.pointer (some a)) "PrintHTML").run Tryz.prog w = .ok (339, .pointer (some a)) w := by kernel_rfl
theorem ahead_AutoLink_PrintHTML (a : Addr) (w : World) : (nilAhead 476 263 (.pointer (some a)) "PrintHTML").run Tryz.prog w = .ok (some false) w := by kernel_rfl
theorem meth_AutoLink_PrintText (a : Addr) (w : World) : (method 476 263 (.pointer (some a)) "PrintText").run Tryz.prog w = .ok (340, .pointer (some a)) w := by kernel_rfl
theorem ahead_AutoLink_PrintText (a : Addr) (w : World) : (nilAhead 476 263 (.pointer (some a)) "PrintText").run Tryz.prog w = .ok (some false) w := by kernel_rfl
theorem meth_AutoLink_printMarkdown (a : Addr) (w : World) : (method 476 263 (.pointer (some a)) "pub-paratext/pub/rscmarkdown.printMarkdown").run Tryz.prog w = .ok (341, .pointer (some a)) w := by kernel_rfl
theorem ahead_AutoLink_printMarkdown (a : Addr) (w : World) : (nilAhead 476 263 (.pointer (some a)) "pub-paratext/pub/rscmarkdown.printMarkdown").run Tryz.prog w = .ok (some false) w := by kernel_rfl
theorem meth_HTMLTag_PrintHTML (a : Addr) (w : World) : (method 476 287 (.pointer (some a)) "PrintHTML").run Tryz.prog w = .ok (345, .pointer (some a)) w := by kernel_rfl
theorem ahead_HTMLTag_PrintHTML (a : Addr) (w : World) : (nilAhead 476 287 (.pointer (some a)) "PrintHTML").run Tryz.prog w = .ok (some false) w := by kernel_rfl
theorem meth_HTMLTag_PrintText (a : Addr) (w : World) : (method 476 287 (.pointer (some a)) "PrintText").run Tryz.prog w = .ok (346, .pointer (some a)) w := by kernel_rfl
theorem ahead_HTMLTag_PrintText (a : Addr) (w : World) : (nilAhead 476 287 (.pointer (some a)) "PrintText").run Tryz.prog w = .ok (some false) w := by kernel_rfl
theorem meth_HTMLTag_printMarkdown (a : Addr) (w : World) : (method 476 287 (.pointer (some a)) "pub-paratext/pub/rscmarkdown.printMarkdown").run Tryz.prog w = .ok (347, .pointer (some a)) w := by kernel_rfl
theorem ahead_HTMLTag_printMarkdown (a : Addr) (w : World) : (nilAhead 476 287 (.pointer (some a)) "pub-paratext/pub/rscmarkdown.printMarkdown").run Tryz.prog w = .ok (some false) w := by kernel_rfl
theorem meth_Task_PrintHTML (a : Addr) (w : World) : (method 476 159 (.pointer (some a)) "PrintHTML").run Tryz.prog w = .ok (278, .pointer (some a)) w := by kernel_rfl
theorem ahead_Task_PrintHTML (a : Addr) (w : World) : (nilAhead 476 159 (.pointer (some a)) "PrintHTML").run Tryz.prog w = .ok (some false) w := by kernel_rfl
theorem meth_Task_PrintText (a : Addr) (w : World) : (method 476 159 (.pointer (some a)) "PrintText").run Tryz.prog w = .ok (279, .pointer (some a)) w := by kernel_rfl
theorem ahead_Task_PrintText (a : Addr) (w : World) : (nilAhead 476 159 (.pointer (some a)) "PrintText").run Tryz.prog w = .ok (some false) w := by kernel_rfl
theorem meth_Task_printMarkdown (a : Addr) (w : World) : (method 476 159 (.pointer (some a)) "pub-paratext/pub/rscmarkdown.printMarkdown").run Tryz.prog w = .ok (280, .pointer (some a)) w := by kernel_rfl
theorem ahead_Task_printMarkdown (a : Addr) (w : World) : (nilAhead 476 159 (.pointer (some a)) "pub-paratext/pub/rscmarkdown.printMarkdown").run Tryz.prog w = .ok (some false) w := by kernel_rfl
theorem meth_Emoji_PrintHTML (a : Addr) (w : World) : (method 476 200 (.pointer (some a)) "PrintHTML").run Tryz.prog w = .ok (307, .pointer (some a)) w := by kernel_rfl
theorem ahead_Emoji_PrintHTML (a : Addr) (w : World) : (nilAhead 476 200 (.pointer (some a)) "PrintHTML").run Tryz.prog w = .ok (some false) w := by kernel_rfl
theorem meth_Emoji_PrintText (a : Addr) (w : World) : (method 476 200 (.pointer (some a)) "PrintText").run Tryz.prog w = .ok (308, .pointer (some a)) w := by kernel_rfl
theorem ahead_Emoji_PrintText (a : Addr) (w : World) : (nilAhead 476 200 (.pointer (some a)) "PrintText").run Tryz.prog w = .ok (some false) w := by kernel_rfl
theorem meth_Emoji_printMarkdown (a : Addr) (w : World) : (method 476 200 (.pointer (some a)) "pub-paratext/pub/rscmarkdown.printMarkdown").run Tryz.prog w = .ok (309, .pointer (some a)) w := by kernel_rfl
theorem ahead_Emoji_printMarkdown (a : Addr) (w : World) : (nilAhead 476 200 (.pointer (some a)) "pub-paratext/pub/rscmarkdown.printMarkdown").run Tryz.prog w = .ok (some false) w := by kernel_rfl
theorem ta_buildState_parseState (v : Value) (w : World) : (Instr.typeAssert (.iface 117 v) 344 117 false).run Tryz.prog w = .ok v w := by kernel_rfl
theorem ta_Block_Document (v : Value) (w : World) : (Instr.typeAssert (.iface 44 v) 70 44 false).run Tryz.prog w = .ok v w := by kernel_rfl
theorem ta_Block_Item (v : Value) (w : World) : (Instr.typeAssert (.iface 151 v) 70 151 false).run Tryz.prog w = .ok v w := by kernel_rfl
theorem tb_Block_List (v : Value) (w : World) : (Instr.typeAssert (.iface 112 v) 70 112 true).run Tryz.prog w = .ok (.tuple #[v, .bool true]) w := by kernel_rfl
theorem tb_Block_Document_List (v : Value) (w : World) : (Instr.typeAssert (.iface 44 v) 70 112 true).run Tryz.prog w = .ok (.tuple #[.pointer none, .bool false]) w := by kernel_rfl
theorem tb_Block_Quote_List (v : Value) (w : World) : (Instr.typeAssert (.iface 366 v) 70 112 true).run Tryz.prog w = .ok (.tuple #[.pointer none, .bool false]) w := by kernel_rfl
theorem tb_Block_Item_List (v : Value) (w : World) : (Instr.typeAssert (.iface 151 v) 70 112 true).run Tryz.prog w = .ok (.tuple #[.pointer none, .bool false]) w := by kernel_rfl
theorem tb_Block_Heading_List (v : Value) (w : World) : (Instr.typeAssert (.iface 233 v) 70 112 true).run Tryz.prog w = .ok (.tuple #[.pointer none, .bool false]) w := by kernel_rfl
theorem tb_Block_Paragraph_List (v : Value) (w : World) : (Instr.typeAssert (.iface 154 v) 70 112 true).run Tryz.prog w = .ok (.tuple #[.pointer none, .bool false]) w := by kernel_rfl
theorem tb_Block_Text_List (v : Value) (w : World) : (Instr.typeAssert (.iface 106 v) 70 112 true).run Tryz.prog w = .ok (.tuple #[.pointer none, .bool false]) w := by kernel_rfl
theorem tb_Block_CodeBlock_List (v : Value) (w : World) : (Instr.typeAssert (.iface 262 v) 70 112 true).run Tryz.prog w = .ok (.tuple #[.pointer none, .bool false]) w := by kernel_rfl
theorem tb_Block_HTMLBlock_List (v : Value) (w : World) : (Instr.typeAssert (.iface 371 v) 70 112 true).run Tryz.prog w = .ok (.tuple #[.pointer none, .bool false]) w := by kernel_rfl
theorem tb_Block_ThematicBreak_List (v : Value) (w : World) : (Instr.typeAssert (.iface 240 v) 70 112 true).run Tryz.prog w = .ok (.tuple #[.pointer none, .bool false]) w := by kernel_rfl
theorem tb_Block_Table_List (v : Value) (w : World) : (Instr.typeAssert (.iface 357 v) 70 112 true).run Tryz.prog w = .ok (.tuple #[.pointer none, .bool false]) w := by kernel_rfl
theorem tb_Block_Empty_List (v : Value) (w : World) : (Instr.typeAssert (.iface 354 v) 70 112 true).run Tryz.prog w = .ok (.tuple #[.pointer none, .bool false]) w := by kernel_rfl
theorem tb_Block_Paragraph (v : Value) (w : World) : (Instr.typeAssert (.iface 154 v) 70 154 true).run Tryz.prog w = .ok (.tuple #[v, .bool true]) w := by kernel_rfl
theorem tb_Block_Document_Paragraph (v : Value) (w : World) : (Instr.typeAssert (.iface 44 v) 70 154 true).run Tryz.prog w = .ok (.tuple #[.pointer none, .bool false]) w := by kernel_rfl
theorem tb_Block_Quote_Paragraph (v : Value) (w : World) : (Instr.typeAssert (.iface 366 v) 70 154 true).run Tryz.prog w = .ok (.tuple #[.pointer none, .bool false]) w := by kernel_rfl
theorem tb_Block_List_Paragraph (v : Value) (w : World) : (Instr.typeAssert (.iface 112 v) 70 154 true).run Tryz.prog w = .ok (.tuple #[.pointer none, .bool false]) w := by kernel_rfl
theorem tb_Block_Item_Paragraph (v : Value) (w : World) : (Instr.typeAssert (.iface 151 v) 70 154 true).run Tryz.prog w = .ok (.tuple #[.pointer none, .bool false]) w := by kernel_rfl
theorem tb_Block_Heading_Paragraph (v : Value) (w : World) : (Instr.typeAssert (.iface 233 v) 70 154 true).run Tryz.prog w = .ok (.tuple #[.pointer none, .bool false]) w := by kernel_rfl
theorem tb_Block_Text_Paragraph (v : Value) (w : World) : (Instr.typeAssert (.iface 106 v) 70 154 true).run Tryz.prog w = .ok (.tuple #[.pointer none, .bool false]) w := by kernel_rfl
theorem tb_Block_CodeBlock_Paragraph (v : Value) (w : World) : (Instr.typeAssert (.iface 262 v) 70 154 true).run Tryz.prog w = .ok (.tuple #[.pointer none, .bool false]) w := by kernel_rfl
theorem tb_Block_HTMLBlock_Paragraph (v : Value) (w : World) : (Instr.typeAssert (.iface 371 v) 70 154 true).run Tryz.prog w = .ok (.tuple #[.pointer none, .bool false]) w := by kernel_rfl
theorem tb_Block_ThematicBreak_Paragraph (v : Value) (w : World) : (Instr.typeAssert (.iface 240 v) 70 154 true).run Tryz.prog w = .ok (.tuple #[.pointer none, .bool false]) w := by kernel_rfl
theorem tb_Block_Table_Paragraph (v : Value) (w : World) : (Instr.typeAssert (.iface 357 v) 70 154 true).run Tryz.prog w = .ok (.tuple #[.pointer none, .bool false]) w := by kernel_rfl
theorem tb_Block_Empty_Paragraph (v : Value) (w : World) : (Instr.typeAssert (.iface 354 v) 70 154 true).run Tryz.prog w = .ok (.tuple #[.pointer none, .bool false]) w := by kernel_rfl
theorem tb_Block_ThematicBreak (v : Value) (w : World) : (Instr.typeAssert (.iface 240 v) 70 240 true).run Tryz.prog w = .ok (.tuple #[v, .bool true]) w := by kernel_rfl
theorem tb_Block_Document_ThematicBreak (v : Value) (w : World) : (Instr.typeAssert (.iface 44 v) 70 240 true).run Tryz.prog w = .ok (.tuple #[.pointer none, .bool false]) w := by kernel_rfl
theorem tb_Block_Quote_ThematicBreak (v : Value) (w : World) : (Instr.typeAssert (.iface 366 v) 70 240 true).run Tryz.prog w = .ok (.tuple #[.pointer none, .bool false]) w := by kernel_rfl
theorem tb_Block_List_ThematicBreak (v : Value) (w : World) : (Instr.typeAssert (.iface 112 v) 70 240 true).run Tryz.prog w = .ok (.tuple #[.pointer none, .bool false]) w := by kernel_rfl
theorem tb_Block_Item_ThematicBreak (v : Value) (w : World) : (Instr.typeAssert (.iface 151 v) 70 240 true).run Tryz.prog w = .ok (.tuple #[.pointer none, .bool false]) w := by kernel_rfl
theorem tb_Block_Heading_ThematicBreak (v : Value) (w : World) : (Instr.typeAssert (.iface 233 v) 70 240 true).run Tryz.prog w = .ok (.tuple #[.pointer none, .bool false]) w := by kernel_rfl
theorem tb_Block_Paragraph_ThematicBreak (v : Value) (w : World) : (Instr.typeAssert (.iface 154 v) 70 240 true).run Tryz.prog w = .ok (.tuple #[.pointer none, .bool false]) w := by kernel_rfl
theorem tb_Block_Text_ThematicBreak (v : Value) (w : World) : (Instr.typeAssert (.iface 106 v) 70 240 true).run Tryz.prog w = .ok (.tuple #[.pointer none, .bool false]) w := by kernel_rfl
theorem tb_Block_CodeBlock_ThematicBreak (v : Value) (w : World) : (Instr.typeAssert (.iface 262 v) 70 240 true).run Tryz.prog w = .ok (.tuple #[.pointer none, .bool false]) w := by kernel_rfl
theorem tb_Block_HTMLBlock_ThematicBreak (v : Value) (w : World) : (Instr.typeAssert (.iface 371 v) 70 240 true).run Tryz.prog w = .ok (.tuple #[.pointer none, .bool false]) w := by kernel_rfl
theorem tb_Block_Table_ThematicBreak (v : Value) (w : World) : (Instr.typeAssert (.iface 357 v) 70 240 true).run Tryz.prog w = .ok (.tuple #[.pointer none, .bool false]) w := by kernel_rfl
theorem tb_Block_Empty_ThematicBreak (v : Value) (w : World) : (Instr.typeAssert (.iface 354 v) 70 240 true).run Tryz.prog w = .ok (.tuple #[.pointer none, .bool false]) w := by kernel_rfl
theorem tb_Block_CodeBlock (v : Value) (w : World) : (Instr.typeAssert (.iface 262 v) 70 262 true).run Tryz.prog w = .ok (.tuple #[v, .bool true]) w := by kernel_rfl
theorem tb_Block_Document_CodeBlock (v : Value) (w : World) : (Instr.typeAssert (.iface 44 v) 70 262 true).run Tryz.prog w = .ok (.tuple #[.pointer none, .bool false]) w := by kernel_rfl
theorem tb_Block_Quote_CodeBlock (v : Value) (w : World) : (Instr.typeAssert (.iface 366 v) 70 262 true).run Tryz.prog w = .ok (.tuple #[.pointer none, .bool false]) w := by kernel_rfl
theorem tb_Block_List_CodeBlock (v : Value) (w : World) : (Instr.typeAssert (.iface 112 v) 70 262 true).run Tryz.prog w = .ok (.tuple #[.pointer none, .bool false]) w := by kernel_rfl
theorem tb_Block_Item_CodeBlock (v : Value) (w : World) : (Instr.typeAssert (.iface 151 v) 70 262 true).run Tryz.prog w = .ok (.tuple #[.pointer none, .bool false]) w := by kernel_rfl
theorem tb_Block_Heading_CodeBlock (v : Value) (w : World) : (Instr.typeAssert (.iface 233 v) 70 262 true).run Tryz.prog w = .ok (.tuple #[.pointer none, .bool false]) w := by kernel_rfl
theorem tb_Block_Paragraph_CodeBlock (v : Value) (w : World) : (Instr.typeAssert (.iface 154 v) 70 262 true).run Tryz.prog w = .ok (.tuple #[.pointer none, .bool false]) w := by kernel_rfl
theorem tb_Block_Text_CodeBlock (v : Value) (w : World) : (Instr.typeAssert (.iface 106 v) 70 262 true).run Tryz.prog w = .ok (.tuple #[.pointer none, .bool false]) w := by kernel_rfl
theorem tb_Block_HTMLBlock_CodeBlock (v : Value) (w : World) : (Instr.typeAssert (.iface 371 v) 70 262 true).run Tryz.prog w = .ok (.tuple #[.pointer none, .bool false]) w := by kernel_rfl
theorem tb_Block_ThematicBreak_CodeBlock (v : Value) (w : World) : (Instr.typeAssert (.iface 240 v) 70 262 true).run Tryz.prog w = .ok (.tuple #[.pointer none, .bool false]) w := by kernel_rfl
theorem tb_Block_Table_CodeBlock (v : Value) (w : World) : (Instr.typeAssert (.iface 357 v) 70 262 true).run Tryz.prog w = .ok (.tuple #[.pointer none, .bool false]) w := by kernel_rfl
theorem tb_Block_Empty_CodeBlock (v : Value) (w : World) : (Instr.typeAssert (.iface 354 v) 70 262 true).run Tryz.prog w = .ok (.tuple #[.pointer none, .bool false]) w := by kernel_rfl
theorem tb_Block_Text (v : Value) (w : World) : (Instr.typeAssert (.iface 106 v) 70 106 true).run Tryz.prog w = .ok (.tuple #[v, .bool true]) w := by kernel_rfl
theorem tb_Block_Document_Text (v : Value) (w : World) : (Instr.typeAssert (.iface 44 v) 70 106 true).run Tryz.prog w = .ok (.tuple #[.pointer none, .bool false]) w := by kernel_rfl
theorem tb_Block_Quote_Text (v : Value) (w : World) : (Instr.typeAssert (.iface 366 v) 70 106 true).run Tryz.prog w = .ok (.tuple #[.pointer none, .bool false]) w := by kernel_rfl
theorem tb_Block_List_Text (v : Value) (w : World) : (Instr.typeAssert (.iface 112 v) 70 106 true).run Tryz.prog w = .ok (.tuple #[.pointer none, .bool false]) w := by kernel_rfl
theorem tb_Block_Item_Text (v : Value) (w : World) : (Instr.typeAssert (.iface 151 v) 70 106 true).run Tryz.prog w = .ok (.tuple #[.pointer none, .bool false]) w := by kernel_rfl
theorem tb_Block_Heading_Text (v : Value) (w : World) : (Instr.typeAssert (.iface 233 v) 70 106 true).run Tryz.prog w = .ok (.tuple #[.pointer none, .bool false]) w := by kernel_rfl
theorem tb_Block_Paragraph_Text (v : Value) (w : World) : (Instr.typeAssert (.iface 154 v) 70 106 true).run Tryz.prog w = .ok (.tuple #[.pointer none, .bool false]) w := by kernel_rfl
theorem tb_Block_CodeBlock_Text (v : Value) (w : World) : (Instr.typeAssert (.iface 262 v) 70 106 true).run Tryz.prog w = .ok (.tuple #[.pointer none, .bool false]) w := by kernel_rfl
theorem tb_Block_HTMLBlock_Text (v : Value) (w : World) : (Instr.typeAssert (.iface 371 v) 70 106 true).run Tryz.prog w = .ok (.tuple #[.pointer none, .bool false]) w := by kernel_rfl
theorem tb_Block_ThematicBreak_Text (v : Value) (w : World) : (Instr.typeAssert (.iface 240 v) 70 106 true).run Tryz.prog w = .ok (.tuple #[.pointer none, .bool false]) w := by kernel_rfl
theorem tb_Block_Table_Text (v : Value) (w : World) : (Instr.typeAssert (.iface 357 v) 70 106 true).run Tryz.prog w = .ok (.tuple #[.pointer none, .bool false]) w := by kernel_rfl
theorem tb_Block_Empty_Text (v : Value) (w : World) : (Instr.typeAssert (.iface 354 v) 70 106 true).run Tryz.prog w = .ok (.tuple #[.pointer none, .bool false]) w := by kernel_rfl
theorem tb_blockBuilder_paraBuilder (v : Value) (w : World) : (Instr.typeAssert (.iface 163 v) 119 163 true).run Tryz.prog w = .ok (.tuple #[v, .bool true]) w := by kernel_rfl
theorem tb_blockBuilder_nil_paraBuilder (w : World) : (Instr.typeAssert .nilIface 119 163 true).run Tryz.prog w = .ok (.tuple #[.pointer none, .bool false]) w := by kernel_rfl
theorem tb_blockBuilder_rootBuilder_paraBuilder (v : Value) (w : World) : (Instr.typeAssert (.iface 99 v) 119 163 true).run Tryz.prog w = .ok (.tuple #[.pointer none, .bool false]) w := by kernel_rfl
theorem tb_blockBuilder_quoteBuilder_paraBuilder (v : Value) (w : World) : (Instr.typeAssert (.iface 225 v) 119 163 true).run Tryz.prog w = .ok (.tuple #[.pointer none, .bool false]) w := by kernel_rfl
theorem tb_blockBuilder_listBuilder_paraBuilder (v : Value) (w : World) : (Instr.typeAssert (.iface 243 v) 119 163 true).run Tryz.prog w = .ok (.tuple #[.pointer none, .bool false]) w := by kernel_rfl
theorem tb_blockBuilder_itemBuilder_paraBuilder (v : Value) (w : World) : (Instr.typeAssert (.iface 245 v) 119 163 true).run Tryz.prog w = .ok (.tuple #[.pointer none, .bool false]) w := by kernel_rfl
theorem tb_blockBuilder_preBuilder_paraBuilder (v : Value) (w : World) : (Instr.typeAssert (.iface 256 v) 119 163 true).run Tryz.prog w = .ok (.tuple #[.pointer none, .bool false]) w := by kernel_rfl
theorem tb_blockBuilder_fenceBuilder_paraBuilder (v : Value) (w : World) : (Instr.typeAssert (.iface 252 v) 119 163 true).run Tryz.prog w = .ok (.tuple #[.pointer none, .bool false]) w := by kernel_rfl
theorem tb_blockBuilder_htmlBuilder_paraBuilder (v : Value) (w : World) : (Instr.typeAssert (.iface 283 v) 119 163 true).run Tryz.prog w = .ok (.tuple #[.pointer none, .bool false]) w := by kernel_rfl
theorem tb_blockBuilder_listBuilder (v : Value) (w : World) : (Instr.typeAssert (.iface 243 v) 119 243 true).run Tryz.prog w = .ok (.tuple #[v, .bool true]) w := by kernel_rfl
theorem tb_blockBuilder_nil_listBuilder (w : World) : (Instr.typeAssert .nilIface 119 243 true).run Tryz.prog w = .ok (.tuple #[.pointer none, .bool false]) w := by kernel_rfl
theorem tb_blockBuilder_rootBuilder_listBuilder (v : Value) (w : World) : (Instr.typeAssert (.iface 99 v) 119 243 true).run Tryz.prog w = .ok (.tuple #[.pointer none, .bool false]) w := by kernel_rfl
theorem tb_blockBuilder_quoteBuilder_listBuilder (v : Value) (w : World) : (Instr.typeAssert (.iface 225 v) 119 243 true).run Tryz.prog w = .ok (.tuple #[.pointer none, .bool false]) w := by kernel_rfl
theorem tb_blockBuilder_itemBuilder_listBuilder (v : Value) (w : World) : (Instr.typeAssert (.iface 245 v) 119 243 true).run Tryz.prog w = .ok (.tuple #[.pointer none, .bool false]) w := by kernel_rfl
theorem tb_blockBuilder_paraBuilder_listBuilder (v : Value) (w : World) : (Instr.typeAssert (.iface 163 v) 119 243 true).run Tryz.prog w = .ok (.tuple #[.pointer none, .bool false]) w := by kernel_rfl
theorem tb_blockBuilder_preBuilder_listBuilder (v : Value) (w : World) : (Instr.typeAssert (.iface 256 v) 119 243 true).run Tryz.prog w = .ok (.tuple #[.pointer none, .bool false]) w := by kernel_rfl
theorem tb_blockBuilder_fenceBuilder_listBuilder (v : Value) (w : World) : (Instr.typeAssert (.iface 252 v) 119 243 true).run Tryz.prog w = .ok (.tuple #[.pointer none, .bool false]) w := by kernel_rfl
theorem tb_blockBuilder_htmlBuilder_listBuilder (v : Value) (w : World) : (Instr.typeAssert (.iface 283 v) 119 243 true).run Tryz.prog w = .ok (.tuple #[.pointer none, .bool false]) w := by kernel_rfl

end Go.Proofs.YtcmpcjffmccllaaGreatDoor
