import PyProof.Rows.All
import Wide.All
import OpenK.AllK
import Wide.FinOn
import KE.KBoundM
import KE.KCallOwn
import PySem.Challenge.RW_eu0042_01
open PySem PySem.W PyProof.Rows
set_option Elab.async false

/-! ## K1 -/
section
set_option maxRecDepth 100000
namespace Mine

abbrev PW : Program := PySem.Challenge.pw_eu0042_01
def noPos : Pos := ⟨0, 0, 0, 0⟩
def dArgs : Stmt → Arguments
  | .FunctionDef _ a _ _ _ _ _ _ _ _ => a
  | _ => ⟨[], [], none, [], [], none, []⟩
def dBody : Stmt → List Stmt
  | .FunctionDef _ _ b _ _ _ _ _ _ _ => b
  | .ClassDef _ _ _ b _ _ _ _ _ _ _ => b
  | _ => []
def dScope : Stmt → Scope
  | .FunctionDef _ _ _ _ _ _ s _ _ _ => s
  | _ => PW.main.scope
def topS (i : Nat) : Stmt := PW.main.body.getD i (.Pass noPos)
def inS (i j : Nat) : Stmt := (dBody (topS i)).getD j (.Pass noPos)
def d_find_ngrams : Stmt := topS 2
def d_maximum : Stmt := inS 4 2
def d_distance : Stmt := inS 4 3
def d_quick_answer : Stmt := inS 4 7
def d_ident : Stmt := inS 4 8
def d_get_sequences : Stmt := inS 4 9
def d_ham_init : Stmt := inS 6 0
def d_ham_call : Stmt := inS 6 1
def d_lev_init : Stmt := inS 7 0
def d_lev_cycled : Stmt := inS 7 2
def d_lev_call : Stmt := inS 7 3
def d_dam_init : Stmt := inS 8 0
def d_dam_restricted : Stmt := inS 8 2
def d_dam_call : Stmt := inS 8 3
def d_law_at : Stmt := topS 10
def d_law_word : Stmt := topS 11
def d_law_least : Stmt := topS 12
def d_law : Stmt := topS 13
def o_2 (P : Params) : Obj := { cls := .none, dict := none, data := (.dict ([]).toArray 0), slots := #[] }
def o_3 (P : Params) : Obj := { cls := (.type "dict"), dict := none, data := (.dict ([⟨PyData.keyHash P (PySem.Str.ofString "__name__"), .str (PySem.Str.ofString "__name__") 165, (.str (PySem.Str.ofString "law_eu0042_01") 557)⟩, ⟨PyData.keyHash P (PySem.Str.ofString "__doc__"), .str (PySem.Str.ofString "__doc__") 166, .none⟩, ⟨PyData.keyHash P (PySem.Str.ofString "__package__"), .str (PySem.Str.ofString "__package__") 167, .none⟩, ⟨PyData.keyHash P (PySem.Str.ofString "__loader__"), .str (PySem.Str.ofString "__loader__") 168, (.builtin "__main__.__loader__#opaque")⟩, ⟨PyData.keyHash P (PySem.Str.ofString "__spec__"), .str (PySem.Str.ofString "__spec__") 169, .none⟩, ⟨PyData.keyHash P (PySem.Str.ofString "__annotations__"), .str (PySem.Str.ofString "__annotations__") 170, (.ref 6)⟩, ⟨PyData.keyHash P (PySem.Str.ofString "__builtins__"), .str (PySem.Str.ofString "__builtins__") 171, (.ref 4)⟩, ⟨PyData.keyHash P (PySem.Str.ofString "__file__"), .str (PySem.Str.ofString "__file__") 173, (.str (PySem.Str.ofString "/claim/cut.py") 172)⟩, ⟨PyData.keyHash P (PySem.Str.ofString "__cached__"), .str (PySem.Str.ofString "__cached__") 174, .none⟩, ⟨PyData.keyHash P (PySem.Str.ofString "_wall"), .str (PySem.Str.ofString "_wall") 193, (.ref 21)⟩, ⟨PyData.keyHash P (PySem.Str.ofString "find_ngrams"), .str (PySem.Str.ofString "find_ngrams") 201, (.ref 26)⟩, ⟨PyData.keyHash P (PySem.Str.ofString "Base"), .str (PySem.Str.ofString "Base") 369, (.ref 146)⟩, ⟨PyData.keyHash P (PySem.Str.ofString "Hamming"), .str (PySem.Str.ofString "Hamming") 409, (.ref 173)⟩, ⟨PyData.keyHash P (PySem.Str.ofString "Levenshtein"), .str (PySem.Str.ofString "Levenshtein") 477, (.ref 214)⟩, ⟨PyData.keyHash P (PySem.Str.ofString "DamerauLevenshtein"), .str (PySem.Str.ofString "DamerauLevenshtein") 556, (.ref 255)⟩, ⟨PyData.keyHash P (PySem.Str.ofString "_law_at"), .str (PySem.Str.ofString "_law_at") 567, (.ref 264)⟩, ⟨PyData.keyHash P (PySem.Str.ofString "_law_word"), .str (PySem.Str.ofString "_law_word") 573, (.ref 269)⟩, ⟨PyData.keyHash P (PySem.Str.ofString "_law_least"), .str (PySem.Str.ofString "_law_least") 579, (.ref 274)⟩, ⟨PyData.keyHash P (PySem.Str.ofString "law"), .str (PySem.Str.ofString "law") 585, (.ref 279)⟩]).toArray 19), slots := #[] }
def o_25 (P : Params) : Obj := { cls := (.type "code"), dict := none, data := (.fields #[(.str (PySem.Str.ofString "find_ngrams") 196), (.str (PySem.Str.ofString "find_ngrams") 197), (.str (PySem.Str.ofString "/claim/cut.py") 198), (.int (5) 0), (.int (2) 0), (.int (0) 0), (.int (0) 0), (.int (3) 0), (.ref 22), (.bool true), (.int (181) 0), (.ref 23), .none, .none, .none, (.ref 24), (.int (199) 0), (.int (5) 0), (.str (PySem.Str.ofString "/claim/cut.py") 200)]), slots := #[] }
def o_26 (P : Params) : Obj := { cls := (.type "function"), dict := none, data := (.func { name := (PySem.Str.ofString "find_ngrams"), qualname := (PySem.Str.ofString "find_ngrams"), params := dArgs d_find_ngrams, body := .stmts (dBody d_find_ngrams), scope := dScope d_find_ngrams, globals := 3, closure := [], defaults := .none, kwdefaults := .none, doc := .none, pyModule := (.str (PySem.Str.ofString "textdistance.utils") 194), annotations := none, code := (.ref 25), closureTuple := .none, builtins := 0 }), slots := #[] }
def o_54 (P : Params) : Obj := { cls := (.type "code"), dict := none, data := (.fields #[(.str (PySem.Str.ofString "maximum") 234), (.str (PySem.Str.ofString "Base.maximum") 235), (.str (PySem.Str.ofString "/claim/cut.py") 236), (.int (17) 0), (.int (0) 0), (.int (0) 0), (.int (0) 0), (.int (7) 0), (.ref 49), (.bool true), (.int (181) 0), (.ref 50), .none, (.ref 51), (.ref 52), (.ref 53), (.int (238) 0), (.int (17) 0), (.str (PySem.Str.ofString "/claim/cut.py") 239)]), slots := #[] }
def o_55 (P : Params) : Obj := { cls := (.type "function"), dict := none, data := (.func { name := (PySem.Str.ofString "maximum"), qualname := (PySem.Str.ofString "Base.maximum"), params := dArgs d_maximum, body := .stmts (dBody d_maximum), scope := dScope d_maximum, globals := 3, closure := [], defaults := .none, kwdefaults := .none, doc := .none, pyModule := (.str (PySem.Str.ofString "textdistance.algorithms.base") 202), annotations := (some 58), code := (.ref 54), closureTuple := .none, builtins := 0 }), slots := #[] }
def o_56 (P : Params) : Obj := { cls := (.type "dict"), dict := none, data := (.dict ([⟨PyData.keyHash P (PySem.Str.ofString "__module__"), .str (PySem.Str.ofString "__module__") 241, (.str (PySem.Str.ofString "textdistance.algorithms.base") 202)⟩, ⟨PyData.keyHash P (PySem.Str.ofString "__name__"), .str (PySem.Str.ofString "__name__") 244, (.str (PySem.Str.ofString "maximum") 243)⟩, ⟨PyData.keyHash P (PySem.Str.ofString "__qualname__"), .str (PySem.Str.ofString "__qualname__") 247, (.str (PySem.Str.ofString "Base.maximum") 246)⟩, ⟨PyData.keyHash P (PySem.Str.ofString "__doc__"), .str (PySem.Str.ofString "__doc__") 249, .none⟩, ⟨PyData.keyHash P (PySem.Str.ofString "__annotations__"), .str (PySem.Str.ofString "__annotations__") 251, (.ref 58)⟩]).toArray 5), slots := #[] }
def o_57 (P : Params) : Obj := { cls := (.type "staticmethod"), dict := (some 56), data := (.fields #[(.ref 55), (.bool false)]), slots := #[] }
def o_64 (P : Params) : Obj := { cls := (.type "code"), dict := none, data := (.fields #[(.str (PySem.Str.ofString "distance") 253), (.str (PySem.Str.ofString "Base.distance") 254), (.str (PySem.Str.ofString "/claim/cut.py") 255), (.int (21) 0), (.int (1) 0), (.int (0) 0), (.int (0) 0), (.int (7) 0), (.ref 59), (.bool true), (.int (181) 0), (.ref 60), .none, (.ref 61), (.ref 62), (.ref 63), (.int (258) 0), (.int (21) 0), (.str (PySem.Str.ofString "/claim/cut.py") 259)]), slots := #[] }
def o_65 (P : Params) : Obj := { cls := (.type "function"), dict := none, data := (.func { name := (PySem.Str.ofString "distance"), qualname := (PySem.Str.ofString "Base.distance"), params := dArgs d_distance, body := .stmts (dBody d_distance), scope := dScope d_distance, globals := 3, closure := [], defaults := .none, kwdefaults := .none, doc := .none, pyModule := (.str (PySem.Str.ofString "textdistance.algorithms.base") 202), annotations := none, code := (.ref 64), closureTuple := .none, builtins := 0 }), slots := #[] }
def o_92 (P : Params) : Obj := { cls := (.type "code"), dict := none, data := (.fields #[(.str (PySem.Str.ofString "quick_answer") 285), (.str (PySem.Str.ofString "Base.quick_answer") 286), (.str (PySem.Str.ofString "/claim/cut.py") 287), (.int (33) 0), (.int (1) 0), (.int (0) 0), (.int (0) 0), (.int (7) 0), (.ref 87), (.bool true), (.int (181) 0), (.ref 88), .none, (.ref 89), (.ref 90), (.ref 91), (.int (290) 0), (.int (33) 0), (.str (PySem.Str.ofString "/claim/cut.py") 291)]), slots := #[] }
def o_93 (P : Params) : Obj := { cls := (.type "function"), dict := none, data := (.func { name := (PySem.Str.ofString "quick_answer"), qualname := (PySem.Str.ofString "Base.quick_answer"), params := dArgs d_quick_answer, body := .stmts (dBody d_quick_answer), scope := dScope d_quick_answer, globals := 3, closure := [], defaults := .none, kwdefaults := .none, doc := .none, pyModule := (.str (PySem.Str.ofString "textdistance.algorithms.base") 202), annotations := none, code := (.ref 92), closureTuple := .none, builtins := 0 }), slots := #[] }
def o_99 (P : Params) : Obj := { cls := (.type "code"), dict := none, data := (.fields #[(.str (PySem.Str.ofString "_ident") 293), (.str (PySem.Str.ofString "Base._ident") 294), (.str (PySem.Str.ofString "/claim/cut.py") 295), (.int (44) 0), (.int (0) 0), (.int (0) 0), (.int (0) 0), (.int (7) 0), (.ref 94), (.bool true), (.int (181) 0), (.ref 95), .none, (.ref 96), (.ref 97), (.ref 98), (.int (299) 0), (.int (44) 0), (.str (PySem.Str.ofString "/claim/cut.py") 300)]), slots := #[] }
def o_100 (P : Params) : Obj := { cls := (.type "function"), dict := none, data := (.func { name := (PySem.Str.ofString "_ident"), qualname := (PySem.Str.ofString "Base._ident"), params := dArgs d_ident, body := .stmts (dBody d_ident), scope := dScope d_ident, globals := 3, closure := [], defaults := .none, kwdefaults := .none, doc := .none, pyModule := (.str (PySem.Str.ofString "textdistance.algorithms.base") 202), annotations := (some 103), code := (.ref 99), closureTuple := .none, builtins := 0 }), slots := #[] }
def o_101 (P : Params) : Obj := { cls := (.type "dict"), dict := none, data := (.dict ([⟨PyData.keyHash P (PySem.Str.ofString "__module__"), .str (PySem.Str.ofString "__module__") 302, (.str (PySem.Str.ofString "textdistance.algorithms.base") 202)⟩, ⟨PyData.keyHash P (PySem.Str.ofString "__name__"), .str (PySem.Str.ofString "__name__") 305, (.str (PySem.Str.ofString "_ident") 304)⟩, ⟨PyData.keyHash P (PySem.Str.ofString "__qualname__"), .str (PySem.Str.ofString "__qualname__") 308, (.str (PySem.Str.ofString "Base._ident") 307)⟩, ⟨PyData.keyHash P (PySem.Str.ofString "__doc__"), .str (PySem.Str.ofString "__doc__") 310, .none⟩, ⟨PyData.keyHash P (PySem.Str.ofString "__annotations__"), .str (PySem.Str.ofString "__annotations__") 312, (.ref 103)⟩]).toArray 5), slots := #[] }
def o_102 (P : Params) : Obj := { cls := (.type "staticmethod"), dict := (some 101), data := (.fields #[(.ref 100), (.bool false)]), slots := #[] }
def o_107 (P : Params) : Obj := { cls := (.type "code"), dict := none, data := (.fields #[(.str (PySem.Str.ofString "_get_sequences") 314), (.str (PySem.Str.ofString "Base._get_sequences") 315), (.str (PySem.Str.ofString "/claim/cut.py") 316), (.int (54) 0), (.int (1) 0), (.int (0) 0), (.int (0) 0), (.int (7) 0), (.ref 104), (.bool true), (.int (181) 0), (.ref 105), .none, .none, .none, (.ref 106), (.int (317) 0), (.int (54) 0), (.str (PySem.Str.ofString "/claim/cut.py") 318)]), slots := #[] }
def o_108 (P : Params) : Obj := { cls := (.type "function"), dict := none, data := (.func { name := (PySem.Str.ofString "_get_sequences"), qualname := (PySem.Str.ofString "Base._get_sequences"), params := dArgs d_get_sequences, body := .stmts (dBody d_get_sequences), scope := dScope d_get_sequences, globals := 3, closure := [], defaults := .none, kwdefaults := .none, doc := .none, pyModule := (.str (PySem.Str.ofString "textdistance.algorithms.base") 202), annotations := none, code := (.ref 107), closureTuple := .none, builtins := 0 }), slots := #[] }
def o_145 (P : Params) : Obj := { cls := (.type "dict"), dict := none, data := (.dict ([⟨PyData.keyHash P (PySem.Str.ofString "__module__"), .str (PySem.Str.ofString "__module__") 211, (.str (PySem.Str.ofString "textdistance.algorithms.base") 202)⟩, ⟨PyData.keyHash P (PySem.Str.ofString "__firstlineno__"), .str (PySem.Str.ofString "__firstlineno__") 215, (.int (8) 214)⟩, ⟨PyData.keyHash P (PySem.Str.ofString "__init__"), .str (PySem.Str.ofString "__init__") 225, (.ref 41)⟩, ⟨PyData.keyHash P (PySem.Str.ofString "__call__"), .str (PySem.Str.ofString "__call__") 233, (.ref 48)⟩, ⟨PyData.keyHash P (PySem.Str.ofString "maximum"), .str (PySem.Str.ofString "maximum") 252, (.ref 57)⟩, ⟨PyData.keyHash P (PySem.Str.ofString "distance"), .str (PySem.Str.ofString "distance") 260, (.ref 65)⟩, ⟨PyData.keyHash P (PySem.Str.ofString "similarity"), .str (PySem.Str.ofString "similarity") 268, (.ref 72)⟩, ⟨PyData.keyHash P (PySem.Str.ofString "normalized_distance"), .str (PySem.Str.ofString "normalized_distance") 276, (.ref 79)⟩, ⟨PyData.keyHash P (PySem.Str.ofString "normalized_similarity"), .str (PySem.Str.ofString "normalized_similarity") 284, (.ref 86)⟩, ⟨PyData.keyHash P (PySem.Str.ofString "quick_answer"), .str (PySem.Str.ofString "quick_answer") 292, (.ref 93)⟩, ⟨PyData.keyHash P (PySem.Str.ofString "_ident"), .str (PySem.Str.ofString "_ident") 313, (.ref 102)⟩, ⟨PyData.keyHash P (PySem.Str.ofString "_get_sequences"), .str (PySem.Str.ofString "_get_sequences") 319, (.ref 108)⟩, ⟨PyData.keyHash P (PySem.Str.ofString "_get_counters"), .str (PySem.Str.ofString "_get_counters") 327, (.ref 115)⟩, ⟨PyData.keyHash P (PySem.Str.ofString "_intersect_counters"), .str (PySem.Str.ofString "_intersect_counters") 335, (.ref 122)⟩, ⟨PyData.keyHash P (PySem.Str.ofString "_union_counters"), .str (PySem.Str.ofString "_union_counters") 343, (.ref 129)⟩, ⟨PyData.keyHash P (PySem.Str.ofString "_sum_counters"), .str (PySem.Str.ofString "_sum_counters") 351, (.ref 136)⟩, ⟨PyData.keyHash P (PySem.Str.ofString "_count_counters"), .str (PySem.Str.ofString "_count_counters") 359, (.ref 143)⟩, ⟨PyData.keyHash P (PySem.Str.ofString "__static_attributes__"), .str (PySem.Str.ofString "__static_attributes__") 362, (.ref 144)⟩, ⟨PyData.keyHash P (PySem.Str.ofString "__dict__"), .str (PySem.Str.ofString "__dict__") 364, (.ref 147)⟩, ⟨PyData.keyHash P (PySem.Str.ofString "__weakref__"), .str (PySem.Str.ofString "__weakref__") 366, (.ref 148)⟩, ⟨PyData.keyHash P (PySem.Str.ofString "__doc__"), .str (PySem.Str.ofString "__doc__") 367, .none⟩]).toArray 4), slots := #[] }
def o_146 (P : Params) : Obj := { cls := (.type "type"), dict := none, data := (.cls { name := (PySem.Str.ofString "Base"), bases := [(.type "object")], mro := [(.ref 146), (.type "object")], ns := 145, qualname := (PySem.Str.ofString "Base"), hasDict := true, slotNames := [], subclasses := [(.ref 173), (.ref 214), (.ref 255)], abstract := false, collection := none, hasDel := false }), slots := #[none, none, (some (.str (PySem.Str.ofString "Base") 204)), (some (.str (PySem.Str.ofString "Base") 212)), (some (.builtin "object.__new__")), (some (.bool true))] }
def o_158 (P : Params) : Obj := { cls := (.type "tuple"), dict := none, data := (.seq #[(.int (1) 384), .none, (.bool false), (.bool true)] 0), slots := #[] }
def o_164 (P : Params) : Obj := { cls := (.type "code"), dict := none, data := (.fields #[(.str (PySem.Str.ofString "__init__") 385), (.str (PySem.Str.ofString "Hamming.__init__") 386), (.str (PySem.Str.ofString "/claim/cut.py") 387), (.int (78) 0), (.int (5) 0), (.int (0) 0), (.int (0) 0), (.int (3) 0), (.ref 159), (.bool true), (.int (181) 0), (.ref 160), .none, (.ref 161), (.ref 162), (.ref 163), (.int (393) 0), (.int (78) 0), (.str (PySem.Str.ofString "/claim/cut.py") 394)]), slots := #[] }
def o_165 (P : Params) : Obj := { cls := (.type "function"), dict := none, data := (.func { name := (PySem.Str.ofString "__init__"), qualname := (PySem.Str.ofString "Hamming.__init__"), params := dArgs d_ham_init, body := .stmts (dBody d_ham_init), scope := dScope d_ham_init, globals := 3, closure := [], defaults := (.ref 158), kwdefaults := .none, doc := .none, pyModule := (.str (PySem.Str.ofString "textdistance.algorithms.edit_based") 370), annotations := none, code := (.ref 164), closureTuple := .none, builtins := 0 }), slots := #[] }
def o_167 (P : Params) : Obj := { cls := .none, dict := none, data := (.fields #[]), slots := #[] }
def o_169 (P : Params) : Obj := { cls := (.type "code"), dict := none, data := (.fields #[(.str (PySem.Str.ofString "__call__") 396), (.str (PySem.Str.ofString "Hamming.__call__") 397), (.str (PySem.Str.ofString "/claim/cut.py") 398), (.int (84) 0), (.int (1) 0), (.int (0) 0), (.int (0) 0), (.int (7) 0), (.ref 166), (.bool true), (.int (181) 0), (.ref 167), .none, .none, .none, (.ref 168), (.int (399) 0), (.int (84) 0), (.str (PySem.Str.ofString "/claim/cut.py") 400)]), slots := #[] }
def o_170 (P : Params) : Obj := { cls := (.type "function"), dict := none, data := (.func { name := (PySem.Str.ofString "__call__"), qualname := (PySem.Str.ofString "Hamming.__call__"), params := dArgs d_ham_call, body := .stmts (dBody d_ham_call), scope := dScope d_ham_call, globals := 3, closure := [], defaults := .none, kwdefaults := .none, doc := .none, pyModule := (.str (PySem.Str.ofString "textdistance.algorithms.edit_based") 370), annotations := none, code := (.ref 169), closureTuple := .none, builtins := 0 }), slots := #[] }
def o_172 (P : Params) : Obj := { cls := (.type "dict"), dict := none, data := (.dict ([⟨PyData.keyHash P (PySem.Str.ofString "__module__"), .str (PySem.Str.ofString "__module__") 379, (.str (PySem.Str.ofString "textdistance.algorithms.edit_based") 370)⟩, ⟨PyData.keyHash P (PySem.Str.ofString "__firstlineno__"), .str (PySem.Str.ofString "__firstlineno__") 383, (.int (76) 382)⟩, ⟨PyData.keyHash P (PySem.Str.ofString "__init__"), .str (PySem.Str.ofString "__init__") 395, (.ref 165)⟩, ⟨PyData.keyHash P (PySem.Str.ofString "__call__"), .str (PySem.Str.ofString "__call__") 401, (.ref 170)⟩, ⟨PyData.keyHash P (PySem.Str.ofString "__static_attributes__"), .str (PySem.Str.ofString "__static_attributes__") 406, (.ref 171)⟩, ⟨PyData.keyHash P (PySem.Str.ofString "__doc__"), .str (PySem.Str.ofString "__doc__") 407, .none⟩]).toArray 2), slots := #[] }
def o_173 (P : Params) : Obj := { cls := (.type "type"), dict := none, data := (.cls { name := (PySem.Str.ofString "Hamming"), bases := [(.ref 146)], mro := [(.ref 173), (.ref 146), (.type "object")], ns := 172, qualname := (PySem.Str.ofString "Hamming"), hasDict := true, slotNames := [], subclasses := [], abstract := false, collection := none, hasDel := false }), slots := #[(some (.ref 151)), none, (some (.str (PySem.Str.ofString "Hamming") 372)), (some (.str (PySem.Str.ofString "Hamming") 380)), (some (.builtin "object.__new__")), (some (.bool true))] }
def o_183 (P : Params) : Obj := { cls := (.type "tuple"), dict := none, data := (.seq #[(.int (1) 422), .none, (.bool true)] 0), slots := #[] }
def o_189 (P : Params) : Obj := { cls := (.type "code"), dict := none, data := (.fields #[(.str (PySem.Str.ofString "__init__") 423), (.str (PySem.Str.ofString "Levenshtein.__init__") 424), (.str (PySem.Str.ofString "/claim/cut.py") 425), (.int (96) 0), (.int (4) 0), (.int (0) 0), (.int (0) 0), (.int (3) 0), (.ref 184), (.bool true), (.int (181) 0), (.ref 185), .none, (.ref 186), (.ref 187), (.ref 188), (.int (430) 0), (.int (96) 0), (.str (PySem.Str.ofString "/claim/cut.py") 431)]), slots := #[] }
def o_190 (P : Params) : Obj := { cls := (.type "function"), dict := none, data := (.func { name := (PySem.Str.ofString "__init__"), qualname := (PySem.Str.ofString "Levenshtein.__init__"), params := dArgs d_lev_init, body := .stmts (dBody d_lev_init), scope := dScope d_lev_init, globals := 3, closure := [], defaults := (.ref 183), kwdefaults := .none, doc := .none, pyModule := (.str (PySem.Str.ofString "textdistance.algorithms.edit_based") 370), annotations := none, code := (.ref 189), closureTuple := .none, builtins := 0 }), slots := #[] }
def o_203 (P : Params) : Obj := { cls := (.type "code"), dict := none, data := (.fields #[(.str (PySem.Str.ofString "_cycled") 442), (.str (PySem.Str.ofString "Levenshtein._cycled") 443), (.str (PySem.Str.ofString "/claim/cut.py") 444), (.int (104) 0), (.int (3) 0), (.int (0) 0), (.int (0) 0), (.int (3) 0), (.ref 198), (.bool true), (.int (181) 0), (.ref 199), .none, (.ref 200), (.ref 201), (.ref 202), (.int (458) 0), (.int (104) 0), (.str (PySem.Str.ofString "/claim/cut.py") 459)]), slots := #[] }
def o_204 (P : Params) : Obj := { cls := (.type "function"), dict := none, data := (.func { name := (PySem.Str.ofString "_cycled"), qualname := (PySem.Str.ofString "Levenshtein._cycled"), params := dArgs d_lev_cycled, body := .stmts (dBody d_lev_cycled), scope := dScope d_lev_cycled, globals := 3, closure := [], defaults := .none, kwdefaults := .none, doc := .none, pyModule := (.str (PySem.Str.ofString "textdistance.algorithms.edit_based") 370), annotations := none, code := (.ref 203), closureTuple := .none, builtins := 0 }), slots := #[] }
def o_210 (P : Params) : Obj := { cls := (.type "code"), dict := none, data := (.fields #[(.str (PySem.Str.ofString "__call__") 461), (.str (PySem.Str.ofString "Levenshtein.__call__") 462), (.str (PySem.Str.ofString "/claim/cut.py") 463), (.int (119) 0), (.int (3) 0), (.int (0) 0), (.int (0) 0), (.int (3) 0), (.ref 205), (.bool true), (.int (181) 0), (.ref 206), .none, (.ref 207), (.ref 208), (.ref 209), (.int (468) 0), (.int (119) 0), (.str (PySem.Str.ofString "/claim/cut.py") 469)]), slots := #[] }
def o_211 (P : Params) : Obj := { cls := (.type "function"), dict := none, data := (.func { name := (PySem.Str.ofString "__call__"), qualname := (PySem.Str.ofString "Levenshtein.__call__"), params := dArgs d_lev_call, body := .stmts (dBody d_lev_call), scope := dScope d_lev_call, globals := 3, closure := [], defaults := .none, kwdefaults := .none, doc := .none, pyModule := (.str (PySem.Str.ofString "textdistance.algorithms.edit_based") 370), annotations := none, code := (.ref 210), closureTuple := .none, builtins := 0 }), slots := #[] }
def o_213 (P : Params) : Obj := { cls := (.type "dict"), dict := none, data := (.dict ([⟨PyData.keyHash P (PySem.Str.ofString "__module__"), .str (PySem.Str.ofString "__module__") 417, (.str (PySem.Str.ofString "textdistance.algorithms.edit_based") 370)⟩, ⟨PyData.keyHash P (PySem.Str.ofString "__firstlineno__"), .str (PySem.Str.ofString "__firstlineno__") 421, (.int (94) 420)⟩, ⟨PyData.keyHash P (PySem.Str.ofString "__init__"), .str (PySem.Str.ofString "__init__") 432, (.ref 190)⟩, ⟨PyData.keyHash P (PySem.Str.ofString "_recursive"), .str (PySem.Str.ofString "_recursive") 441, (.ref 197)⟩, ⟨PyData.keyHash P (PySem.Str.ofString "_cycled"), .str (PySem.Str.ofString "_cycled") 460, (.ref 204)⟩, ⟨PyData.keyHash P (PySem.Str.ofString "__call__"), .str (PySem.Str.ofString "__call__") 470, (.ref 211)⟩, ⟨PyData.keyHash P (PySem.Str.ofString "__static_attributes__"), .str (PySem.Str.ofString "__static_attributes__") 474, (.ref 212)⟩, ⟨PyData.keyHash P (PySem.Str.ofString "__doc__"), .str (PySem.Str.ofString "__doc__") 475, .none⟩]).toArray 2), slots := #[] }
def o_214 (P : Params) : Obj := { cls := (.type "type"), dict := none, data := (.cls { name := (PySem.Str.ofString "Levenshtein"), bases := [(.ref 146)], mro := [(.ref 214), (.ref 146), (.type "object")], ns := 213, qualname := (PySem.Str.ofString "Levenshtein"), hasDict := true, slotNames := [], subclasses := [], abstract := false, collection := none, hasDel := false }), slots := #[(some (.ref 176)), none, (some (.str (PySem.Str.ofString "Levenshtein") 410)), (some (.str (PySem.Str.ofString "Levenshtein") 418)), (some (.builtin "object.__new__")), (some (.bool true))] }
def o_224 (P : Params) : Obj := { cls := (.type "tuple"), dict := none, data := (.seq #[(.int (1) 490), .none, (.bool true), (.bool true)] 0), slots := #[] }
def o_230 (P : Params) : Obj := { cls := (.type "code"), dict := none, data := (.fields #[(.str (PySem.Str.ofString "__init__") 491), (.str (PySem.Str.ofString "DamerauLevenshtein.__init__") 492), (.str (PySem.Str.ofString "/claim/cut.py") 493), (.int (128) 0), (.int (5) 0), (.int (0) 0), (.int (0) 0), (.int (3) 0), (.ref 225), (.bool true), (.int (181) 0), (.ref 226), .none, (.ref 227), (.ref 228), (.ref 229), (.int (499) 0), (.int (128) 0), (.str (PySem.Str.ofString "/claim/cut.py") 500)]), slots := #[] }
def o_231 (P : Params) : Obj := { cls := (.type "function"), dict := none, data := (.func { name := (PySem.Str.ofString "__init__"), qualname := (PySem.Str.ofString "DamerauLevenshtein.__init__"), params := dArgs d_dam_init, body := .stmts (dBody d_dam_init), scope := dScope d_dam_init, globals := 3, closure := [], defaults := (.ref 224), kwdefaults := .none, doc := .none, pyModule := (.str (PySem.Str.ofString "textdistance.algorithms.edit_based") 370), annotations := none, code := (.ref 230), closureTuple := .none, builtins := 0 }), slots := #[] }
def o_244 (P : Params) : Obj := { cls := (.type "code"), dict := none, data := (.fields #[(.str (PySem.Str.ofString "_pure_python_restricted") 524), (.str (PySem.Str.ofString "DamerauLevenshtein._pure_python_restricted") 525), (.str (PySem.Str.ofString "/claim/cut.py") 526), (.int (161) 0), (.int (3) 0), (.int (0) 0), (.int (0) 0), (.int (3) 0), (.ref 239), (.bool true), (.int (181) 0), (.ref 240), .none, (.ref 241), (.ref 242), (.ref 243), (.int (536) 0), (.int (161) 0), (.str (PySem.Str.ofString "/claim/cut.py") 537)]), slots := #[] }
def o_245 (P : Params) : Obj := { cls := (.type "function"), dict := none, data := (.func { name := (PySem.Str.ofString "_pure_python_restricted"), qualname := (PySem.Str.ofString "DamerauLevenshtein._pure_python_restricted"), params := dArgs d_dam_restricted, body := .stmts (dBody d_dam_restricted), scope := dScope d_dam_restricted, globals := 3, closure := [], defaults := .none, kwdefaults := .none, doc := .none, pyModule := (.str (PySem.Str.ofString "textdistance.algorithms.edit_based") 370), annotations := none, code := (.ref 244), closureTuple := .none, builtins := 0 }), slots := #[] }
def o_251 (P : Params) : Obj := { cls := (.type "code"), dict := none, data := (.fields #[(.str (PySem.Str.ofString "__call__") 539), (.str (PySem.Str.ofString "DamerauLevenshtein.__call__") 540), (.str (PySem.Str.ofString "/claim/cut.py") 541), (.int (180) 0), (.int (3) 0), (.int (0) 0), (.int (0) 0), (.int (3) 0), (.ref 246), (.bool true), (.int (181) 0), (.ref 247), .none, (.ref 248), (.ref 249), (.ref 250), (.int (546) 0), (.int (180) 0), (.str (PySem.Str.ofString "/claim/cut.py") 547)]), slots := #[] }
def o_252 (P : Params) : Obj := { cls := (.type "function"), dict := none, data := (.func { name := (PySem.Str.ofString "__call__"), qualname := (PySem.Str.ofString "DamerauLevenshtein.__call__"), params := dArgs d_dam_call, body := .stmts (dBody d_dam_call), scope := dScope d_dam_call, globals := 3, closure := [], defaults := .none, kwdefaults := .none, doc := .none, pyModule := (.str (PySem.Str.ofString "textdistance.algorithms.edit_based") 370), annotations := none, code := (.ref 251), closureTuple := .none, builtins := 0 }), slots := #[] }
def o_254 (P : Params) : Obj := { cls := (.type "dict"), dict := none, data := (.dict ([⟨PyData.keyHash P (PySem.Str.ofString "__module__"), .str (PySem.Str.ofString "__module__") 485, (.str (PySem.Str.ofString "textdistance.algorithms.edit_based") 370)⟩, ⟨PyData.keyHash P (PySem.Str.ofString "__firstlineno__"), .str (PySem.Str.ofString "__firstlineno__") 489, (.int (126) 488)⟩, ⟨PyData.keyHash P (PySem.Str.ofString "__init__"), .str (PySem.Str.ofString "__init__") 501, (.ref 231)⟩, ⟨PyData.keyHash P (PySem.Str.ofString "_pure_python_unrestricted"), .str (PySem.Str.ofString "_pure_python_unrestricted") 523, (.ref 238)⟩, ⟨PyData.keyHash P (PySem.Str.ofString "_pure_python_restricted"), .str (PySem.Str.ofString "_pure_python_restricted") 538, (.ref 245)⟩, ⟨PyData.keyHash P (PySem.Str.ofString "__call__"), .str (PySem.Str.ofString "__call__") 548, (.ref 252)⟩, ⟨PyData.keyHash P (PySem.Str.ofString "__static_attributes__"), .str (PySem.Str.ofString "__static_attributes__") 553, (.ref 253)⟩, ⟨PyData.keyHash P (PySem.Str.ofString "__doc__"), .str (PySem.Str.ofString "__doc__") 554, .none⟩]).toArray 2), slots := #[] }
def o_255 (P : Params) : Obj := { cls := (.type "type"), dict := none, data := (.cls { name := (PySem.Str.ofString "DamerauLevenshtein"), bases := [(.ref 146)], mro := [(.ref 255), (.ref 146), (.type "object")], ns := 254, qualname := (PySem.Str.ofString "DamerauLevenshtein"), hasDict := true, slotNames := [], subclasses := [], abstract := false, collection := none, hasDel := false }), slots := #[(some (.ref 217)), none, (some (.str (PySem.Str.ofString "DamerauLevenshtein") 478)), (some (.str (PySem.Str.ofString "DamerauLevenshtein") 486)), (some (.builtin "object.__new__")), (some (.bool true))] }
def o_263 (P : Params) : Obj := { cls := (.type "code"), dict := none, data := (.fields #[(.str (PySem.Str.ofString "_law_at") 559), (.str (PySem.Str.ofString "_law_at") 560), (.str (PySem.Str.ofString "/claim/cut.py") 561), (.int (189) 0), (.int (3) 0), (.int (0) 0), (.int (0) 0), (.int (3) 0), (.ref 258), (.bool true), (.int (181) 0), (.ref 259), .none, (.ref 260), (.ref 261), (.ref 262), (.int (565) 0), (.int (189) 0), (.str (PySem.Str.ofString "/claim/cut.py") 566)]), slots := #[] }
def o_264 (P : Params) : Obj := { cls := (.type "function"), dict := none, data := (.func { name := (PySem.Str.ofString "_law_at"), qualname := (PySem.Str.ofString "_law_at"), params := dArgs d_law_at, body := .stmts (dBody d_law_at), scope := dScope d_law_at, globals := 3, closure := [], defaults := .none, kwdefaults := .none, doc := .none, pyModule := (.str (PySem.Str.ofString "law_eu0042_01") 557), annotations := none, code := (.ref 263), closureTuple := .none, builtins := 0 }), slots := #[] }
def o_268 (P : Params) : Obj := { cls := (.type "code"), dict := none, data := (.fields #[(.str (PySem.Str.ofString "_law_word") 568), (.str (PySem.Str.ofString "_law_word") 569), (.str (PySem.Str.ofString "/claim/cut.py") 570), (.int (191) 0), (.int (5) 0), (.int (0) 0), (.int (0) 0), (.int (3) 0), (.ref 265), (.bool true), (.int (181) 0), (.ref 266), .none, .none, .none, (.ref 267), (.int (571) 0), (.int (191) 0), (.str (PySem.Str.ofString "/claim/cut.py") 572)]), slots := #[] }
def o_269 (P : Params) : Obj := { cls := (.type "function"), dict := none, data := (.func { name := (PySem.Str.ofString "_law_word"), qualname := (PySem.Str.ofString "_law_word"), params := dArgs d_law_word, body := .stmts (dBody d_law_word), scope := dScope d_law_word, globals := 3, closure := [], defaults := .none, kwdefaults := .none, doc := .none, pyModule := (.str (PySem.Str.ofString "law_eu0042_01") 557), annotations := none, code := (.ref 268), closureTuple := .none, builtins := 0 }), slots := #[] }
def o_273 (P : Params) : Obj := { cls := (.type "code"), dict := none, data := (.fields #[(.str (PySem.Str.ofString "_law_least") 574), (.str (PySem.Str.ofString "_law_least") 575), (.str (PySem.Str.ofString "/claim/cut.py") 576), (.int (194) 0), (.int (2) 0), (.int (0) 0), (.int (0) 0), (.int (3) 0), (.ref 270), (.bool true), (.int (181) 0), (.ref 271), .none, .none, .none, (.ref 272), (.int (577) 0), (.int (194) 0), (.str (PySem.Str.ofString "/claim/cut.py") 578)]), slots := #[] }
def o_274 (P : Params) : Obj := { cls := (.type "function"), dict := none, data := (.func { name := (PySem.Str.ofString "_law_least"), qualname := (PySem.Str.ofString "_law_least"), params := dArgs d_law_least, body := .stmts (dBody d_law_least), scope := dScope d_law_least, globals := 3, closure := [], defaults := .none, kwdefaults := .none, doc := .none, pyModule := (.str (PySem.Str.ofString "law_eu0042_01") 557), annotations := none, code := (.ref 273), closureTuple := .none, builtins := 0 }), slots := #[] }
def o_278 (P : Params) : Obj := { cls := (.type "code"), dict := none, data := (.fields #[(.str (PySem.Str.ofString "law") 580), (.str (PySem.Str.ofString "law") 581), (.str (PySem.Str.ofString "/claim/cut.py") 582), (.int (200) 0), (.int (1) 0), (.int (0) 0), (.int (0) 0), (.int (3) 0), (.ref 275), (.bool true), (.int (181) 0), (.ref 276), .none, .none, .none, (.ref 277), (.int (583) 0), (.int (200) 0), (.str (PySem.Str.ofString "/claim/cut.py") 584)]), slots := #[] }
def o_279 (P : Params) : Obj := { cls := (.type "function"), dict := none, data := (.func { name := (PySem.Str.ofString "law"), qualname := (PySem.Str.ofString "law"), params := dArgs d_law, body := .stmts (dBody d_law), scope := dScope d_law, globals := 3, closure := [], defaults := .none, kwdefaults := .none, doc := .none, pyModule := (.str (PySem.Str.ofString "law_eu0042_01") 557), annotations := none, code := (.ref 278), closureTuple := .none, builtins := 0 }), slots := #[] }
def KK (P : Params) : Frag := [(2, o_2 P), (3, o_3 P), (25, o_25 P), (26, o_26 P), (54, o_54 P), (55, o_55 P), (56, o_56 P), (57, o_57 P), (64, o_64 P), (65, o_65 P), (92, o_92 P), (93, o_93 P), (99, o_99 P), (100, o_100 P), (101, o_101 P), (102, o_102 P), (107, o_107 P), (108, o_108 P), (145, o_145 P), (146, o_146 P), (158, o_158 P), (164, o_164 P), (165, o_165 P), (167, o_167 P), (169, o_169 P), (170, o_170 P), (172, o_172 P), (173, o_173 P), (183, o_183 P), (189, o_189 P), (190, o_190 P), (203, o_203 P), (204, o_204 P), (210, o_210 P), (211, o_211 P), (213, o_213 P), (214, o_214 P), (224, o_224 P), (230, o_230 P), (231, o_231 P), (244, o_244 P), (245, o_245 P), (251, o_251 P), (252, o_252 P), (254, o_254 P), (255, o_255 P), (263, o_263 P), (264, o_264 P), (268, o_268 P), (269, o_269 P), (273, o_273 P), (274, o_274 P), (278, o_278 P), (279, o_279 P)]
def KA : List Addr := [2, 3, 25, 26, 54, 55, 56, 57, 64, 65, 92, 93, 99, 100, 101, 102, 107, 108, 145, 146, 158, 164, 165, 167, 169, 170, 172, 173, 183, 189, 190, 203, 204, 210, 211, 213, 214, 224, 230, 231, 244, 245, 251, 252, 254, 255, 263, 264, 268, 269, 273, 274, 278, 279]
end Mine
end

/-! ## F1 -/
section
namespace Mine

abbrev MM (w : World) : Model := model PW w
def PH : Addr := 167
def CH : Addr := 169
abbrev Le (h h' : Heap) : Prop := ∀ b o, h.get? b = some o → h'.get? b = some o

/-! ### a part of a heap -/
open Classical in
noncomputable def only (p : Addr → Prop) (h : Heap) : Heap :=
  { h with objs := h.objs.mapIdx fun i o => if p i then o else { cls := .none, data := .freed } }

theorem only_get {p : Addr → Prop} {h : Heap} {b : Addr} {o : Obj} : (only p h).get? b = some o ↔ p b ∧ h.get? b = some o := by
  rw [Heap.get?_some_iff, Heap.get?_some_iff]
  simp only [only, Array.getElem?_mapIdx, Option.map_eq_some_iff]
  constructor
  · rintro ⟨⟨o', h1, h2⟩, h3⟩
    by_cases hp : p b
    · rw [if_pos hp] at h2; exact ⟨hp, h2 ▸ h1, h3⟩
    · rw [if_neg hp] at h2; subst h2; cases h3
  · rintro ⟨hp, h1, h2⟩
    exact ⟨⟨o, h1, by rw [if_pos hp]⟩, h2⟩
theorem only_none {p : Addr → Prop} {h : Heap} {b : Addr} (hp : ¬ p b) : (only p h).get? b = none := by
  cases e : (only p h).get? b with
  | none => rfl
  | some o => exact absurd (only_get.mp e).1 hp

/-! ### frames -/
def fra (l : List Env) : List Addr := l.filterMap (·.frame)

/-! ### the one table that grows -/
def lastE : Stmt → Expr
  | .Return (some e) _ => e
  | _ => .Name "" noPos
def argE : Expr → Expr
  | .Call _ (a :: _) _ _ => a
  | _ => .Name "" noPos
def posE : Expr → Pos
  | .GeneratorExp _ _ _ p => p
  | _ => noPos
def geExpr : Expr := argE (lastE ((dBody d_ham_call).getLastD (.Pass noPos)))
def gePos : Pos := posE geExpr
def geQual : Str := "Hamming.__call__.<locals>.<genexpr>"

def CodeObj (o : Obj) (q : Str) : Prop := o.cls = .type "code" ∧ ∃ vs t, o.data = .fields vs ∧ vs[1]? = some (.str q t)
def Tab (h : Heap) : Prop := ∃ ps, h.IsCode CH PH ps ∧ h.TableAt CH PH ps ∧
  (ps = #[] ∨ ∃ c' o, codeAmong gePos ps.toList = some (.ref c') ∧ h.get? c' = some o ∧ CodeObj o geQual)

theorem Tab.obj {h : Heap} (T : Tab h) : ∃ ps, h.get? PH = some { cls := .none, data := .fields ps } := let ⟨ps, _, t, _⟩ := T; ⟨ps, t.2⟩


/-! ### data -/
inductive D where
  | py (d : PyData)
  | raw (v : Value)
  | sat (F : Heap → Value → Prop)
def V (h : Heap) (v : Value) : D → Prop
  | .py d => ∃ as, Reads h v d as
  | .raw u => v = u
  | .sat F => ∀ h', Le h h' → F h' v
theorem V.up {h h' : Heap} {v : Value} {d : D} (k : Le h h') (x : V h v d) : V h' v d := by
  cases d with
  | py d => obtain ⟨as, r⟩ := x; exact ⟨as, Reads.keeps k r⟩
  | raw u => exact x
  | sat F => exact fun h'' k' => x h'' fun b o e => k' b o (k b o e)
theorem V.sat {h : Heap} {v : Value} {F : Heap → Value → Prop} (x : F h v) (up : ∀ h h', Le h h' → F h v → F h' v) : V h v (.sat F) := fun h' k => up h h' k x
theorem V.out {h : Heap} {v : Value} {F : Heap → Value → Prop} (x : V h v (.sat F)) : F h v := x h fun _ _ e => e

/-! ### what a call leaves -/
structure GK (a b : Array GenState) : Prop where
  bare : AllBare a → AllBare b
  size : a.size ≤ b.size
theorem gid {a : Array GenState} : GK a a := ⟨id, Nat.le_refl _⟩
theorem GK.trans {a b c : Array GenState} (x : GK a b) (y : GK b c) : GK a c := ⟨fun h => y.bare (x.bare h), Nat.le_trans x.size y.size⟩
structure Kp (l : List Env) (s s' : Shared) : Prop where
  keep : ∀ b o, b ≠ PH → b ∉ fra l → s.heap.get? b = some o → s'.heap.get? b = some o
  fr : ∀ b ∈ fra l, b ≠ PH → ∀ o, s.heap.get? b = some o → ∃ sl, s'.heap.get? b = some { o with slots := sl }
  tab : Tab s.heap → Tab s'.heap
  os : s'.os = s.os
  bare : GK s.gens s'.gens

namespace Kp
variable {l : List Env} {s s' s'' : Shared}
theorem refl (l) (s : Shared) : Kp l s s := ⟨fun _ _ _ _ e => e, fun _ _ _ o e => ⟨o.slots, e⟩, id, rfl, gid⟩
theorem trans (x : Kp l s s') (y : Kp l s' s'') : Kp l s s'' where
  keep := fun b o h1 h2 e => y.keep b o h1 h2 (x.keep b o h1 h2 e)
  fr := fun b hb hp o e => by
    obtain ⟨sl, e1⟩ := x.fr b hb hp o e
    obtain ⟨sl', e2⟩ := y.fr b hb hp _ e1
    exact ⟨sl', e2⟩
  tab := fun t => y.tab (x.tab t)
  os := y.os.trans x.os
  bare := x.bare.trans y.bare
theorem alive (x : Kp l s s') (T : Tab s.heap) {b : Addr} {o : Obj} (e : s.heap.get? b = some o) : ∃ o', s'.heap.get? b = some o' := by
  by_cases h : b = PH
  · subst h; obtain ⟨ps, e'⟩ := (x.tab T).obj; exact ⟨_, e'⟩
  · by_cases hf : b ∈ fra l
    · obtain ⟨sl, e'⟩ := x.fr b hf h o e; exact ⟨_, e'⟩
    · exact ⟨o, x.keep b o h hf e⟩
theorem none (x : Kp l s s') (T : Tab s.heap) {b : Addr} (e : s'.heap.get? b = none) : s.heap.get? b = none := by
  cases h : s.heap.get? b with
  | none => rfl
  | some o => obtain ⟨o', e'⟩ := x.alive T h; rw [e] at e'; cases e'
end Kp

theorem Tab.keeps {h h' : Heap} (T : Tab h) (k : Le h h') : Tab h' := by
  obtain ⟨ps, a, b, c⟩ := T
  exact ⟨ps, a.keeps k, b.keeps k, c.imp id fun ⟨c', o, x, y, z⟩ => ⟨c', o, x, k _ _ y, z⟩⟩
theorem Kp.of_le {l : List Env} {s s' : Shared} (k : Le s.heap s'.heap) (ho : s'.os = s.os) (hg : GK s.gens s'.gens) : Kp l s s' :=
  ⟨fun b o _ _ e => k b o e, fun b _ _ o e => ⟨o.slots, k b o e⟩, fun t => t.keeps k, ho, hg⟩

/-! ### the program's own objects -/
def KG (P : Params) : Frag := (KK P).filter fun p => p.1 != PH
structure Gd (w : World) (h : Heap) : Prop where
  frag : (KG w.params).In h
  bi : ∃ mb, h.Ns builtinsNs mb ∧ ∀ x : Str, x ≠ "__name__" → mb x = bootBuiltins x
  lim : h.NoLimit
  mg : ∃ mg, h.Ns mainGlobals mg
  bm : ∃ mg bm ob, BMod h mainGlobals mg bm ob
theorem Gd.up {w : World} {h h' : Heap} (G : Gd w h) (k : Le h h') : Gd w h' :=
  ⟨G.frag.keeps k, let ⟨mb, a, b⟩ := G.bi; ⟨mb, a.keeps k, b⟩, let ⟨m, a, b⟩ := G.lim; ⟨m, a.keeps k, b⟩, let ⟨m, a⟩ := G.mg; ⟨m, a.keeps k⟩, let ⟨m, b, o, x⟩ := G.bm; ⟨m, b, o, ⟨x.ns.keeps k, x.name, x.ne, k _ _ x.obj, x.cls, x.dict, x.data⟩⟩⟩

structure Base (w : World) (l : List Env) (hb : Heap) (s : Shared) : Prop where
  le : Le hb s.heap
  ph : hb.get? PH = none
  fr : ∀ b ∈ fra l, hb.get? b = none ∧ b ≠ PH ∧ ∃ m, s.heap.Ns b m
  gd : Gd w hb
  tab : Tab s.heap
  fk : ∀ e ∈ l, e.scope.kind ≠ .module ∧ ∃ f, e.frame = some f

structure Ext (l : List Env) (s : Shared) (hb : Heap) (s' : Shared) (hb' : Heap) : Prop where
  kp : Kp l s s'
  le : Le hb hb'
  gr : ∀ b o, hb'.get? b = some o → hb.get? b = some o ∨ s.heap.get? b = none
  le' : Le hb' s'.heap

theorem ns_slots {h h' : Heap} {a : Addr} {m : Str → Option Value} (n : h.Ns a m) (k : ∀ o, h.get? a = some o → ∃ sl, h'.get? a = some { o with slots := sl }) : h'.Ns a m := by
  obtain ⟨o, es, ep, e, d, r⟩ := n
  obtain ⟨sl, e'⟩ := k o e
  exact ⟨_, es, ep, e', d, r⟩

namespace Ext
variable {w : World} {l : List Env} {s s' s'' : Shared} {hb hb' hb'' : Heap}
theorem refl (B : Base w l hb s) : Ext l s hb s hb := ⟨.refl _ _, fun _ _ e => e, fun _ _ e => .inl e, B.le⟩
theorem base (B : Base w l hb s) (x : Ext l s hb s' hb') : Base w l hb' s' where
  le := x.le'
  ph := by
    cases e : hb'.get? PH with
    | none => rfl
    | some o =>
      obtain ⟨ps, h⟩ := B.tab.obj
      rcases x.gr _ _ e with h1 | h1
      · rw [B.ph] at h1; cases h1
      · rw [h] at h1; cases h1
  fr := fun b hbm => by
    obtain ⟨h1, h2, m, h3⟩ := B.fr b hbm
    refine ⟨?_, h2, m, ns_slots h3 fun o e => x.kp.fr b hbm h2 o e⟩
    cases e : hb'.get? b with
    | none => rfl
    | some o =>
      obtain ⟨o', _, _, h, _⟩ := h3
      rcases x.gr _ _ e with h' | h'
      · rw [h1] at h'; cases h'
      · rw [h] at h'; cases h'
  gd := B.gd.up x.le
  tab := x.kp.tab B.tab
  fk := B.fk
theorem trans (B : Base w l hb s) (x : Ext l s hb s' hb') (y : Ext l s' hb' s'' hb'') : Ext l s hb s'' hb'' where
  kp := x.kp.trans y.kp
  le := fun b o e => y.le b o (x.le b o e)
  gr := fun b o e => by
    rcases y.gr b o e with h | h
    · exact x.gr b o h
    · exact .inr (x.kp.none B.tab h)
  le' := y.le'
end Ext

/-- what stood and what is new -/
noncomputable def mx (hb h h' : Heap) : Heap := only (fun b => (∃ o, hb.get? b = some o) ∨ h.get? b = none) h'
theorem mx_new {hb h h' : Heap} {b : Addr} {o : Obj} (hn : h.get? b = none) (e : h'.get? b = some o) : (mx hb h h').get? b = some o := only_get.mpr ⟨.inr hn, e⟩
theorem mx_le {hb h h' : Heap} : Le (mx hb h h') h' := fun _ _ e => (only_get.mp e).2
theorem Ext.mx {w : World} {l : List Env} {s s' : Shared} {hb : Heap} (B : Base w l hb s) (k : Kp l s s') : Ext l s hb s' (mx hb s.heap s'.heap) where
  kp := k
  le := fun b o e => only_get.mpr ⟨.inl ⟨o, e⟩, k.keep b o (by rintro rfl; rw [B.ph] at e; cases e) (fun h => by rw [(B.fr b h).1] at e; cases e) (B.le b o e)⟩
  gr := fun b o e => by
    obtain ⟨h | h, e'⟩ := only_get.mp e
    · obtain ⟨o', h⟩ := h
      refine .inl (h.trans ?_)
      rw [← e', k.keep b o' (by rintro rfl; rw [B.ph] at h; cases h) (fun q => by rw [(B.fr b q).1] at h; cases h) (B.le b o' h)]
    · exact .inr h
  le' := mx_le
theorem Ext.same {w : World} {l : List Env} {s s' : Shared} {hb : Heap} (B : Base w l hb s) (k : Kp l s s') : Ext l s hb s' hb where
  kp := k
  le := fun _ _ e => e
  gr := fun _ _ e => .inl e
  le' := fun b o e => k.keep b o (by rintro rfl; rw [B.ph] at e; cases e) (fun h => by rw [(B.fr b h).1] at e; cases e) (B.le b o e)
theorem Kp.of_keeps {l : List Env} {s s' : Shared} (k : Keeps s s') : Kp l s s' := by
  obtain ⟨h', tk, rfl, k⟩ := k
  exact .of_le k rfl gid

end Mine
end

/-! ## F2 -/
section
namespace Mine

/-- how a name reads in a heap -/
def Sees (env : Env) (h : Heap) (x : Str) (v : Value) : Prop :=
  (env.kindOf x = some .local ∧ ∃ m, h.Ns env.locals m ∧ m x = some v) ∨
  ((env.kindOf x = some .cell ∨ env.kindOf x = some .free) ∧ ∃ c, env.cells.lookup x = some c ∧ h.IsCell c (some v))

abbrev Rho := Str → Option D

structure Own where
  wr : List Addr
  fp : List Addr
  p : Heap → Prop
structure Own.Ok (o : Own) : Prop where
  sub : ∀ b ∈ o.wr, b ∈ o.fp
  frame : ∀ h h', o.p h → (∀ b ∈ o.fp, ∀ ob, h.get? b = some ob → h'.get? b = some ob) → o.p h'
  live : ∀ h, o.p h → ∀ b ∈ o.wr, ∃ ob, h.get? b = some ob ∧ ob.cls ≠ .type "code"

structure Room (n : Nat) (A : Around) (l : List Env) : Prop where
  han : A.handled = none
  fr : A.frames = some l
  dep : A.depth + n < recursionLimit
  un : A.units + 16 * n + 80 < cLine
theorem Room.deeper {n : Nat} {A : Around} {l : List Env} (R : Room (n + 1) A l) (env : Env) : Room n (A.deeper env) (env :: l) :=
  ⟨R.han, by show A.frames.map _ = _; rw [R.fr]; rfl, by have := R.dep; show A.depth + 1 + n < _; omega, by have := R.un; show A.units + 3 + _ + _ < _; omega⟩
theorem Room.less {n m : Nat} {A : Around} {l : List Env} (R : Room n A l) (h : m ≤ n) : Room m A l :=
  ⟨R.han, R.fr, by have := R.dep; omega, by have := R.un; omega⟩

structure Ctx where
  w : World
  n : Nat
  A : Around
  env : Env
  l : List Env
  lo : List Env
  s₀ : Shared
  hb₀ : Heap
  wn : Str → Bool
  wl : Bool
  pers : Heap → Prop

structure COk (c : Ctx) : Prop where
  room : Room c.n c.A c.l
  kind : c.env.scope.kind = .function
  glob : c.env.globals = mainGlobals
  bi : c.env.builtins = builtinsNs
  lolo : ∀ b ∈ fra c.lo, b ∈ fra c.l
  new : ∀ b ∈ fra c.l, b ∈ fra c.lo ∨ c.s₀.heap.get? b = none
  pup : ∀ h h', Le h h' → c.pers h → c.pers h'
  tab₀ : Tab c.s₀.heap

/-- off everything that this block reads or that stood before it -/
structure Off (c : Ctx) (hb : Heap) (b : Addr) : Prop where
  hb : hb.get? b = none
  s₀ : c.s₀.heap.get? b = none
  ph : b ≠ PH
  fr : b ∉ fra c.l
  loc : b ≠ c.env.locals
  cell : ∀ n a, c.env.cells.lookup n = some a → a ≠ b

structure St (c : Ctx) (ρ : Rho) (O : List Own) (hb : Heap) (s : Shared) : Prop where
  ok : COk c
  base : Base c.w c.l hb s
  env : ∀ x d, ρ x = some d → ∃ v, Sees c.env s.heap x v ∧ V hb v d
  loc : (∃ m, s.heap.Ns c.env.locals m) ∧ hb.get? c.env.locals = none ∧ (c.wl = true → c.s₀.heap.get? c.env.locals = none)
  cells : ∀ n a, c.env.cells.lookup n = some a → a ≠ c.env.locals ∧ hb.get? a = none ∧ (∃ v, s.heap.IsCell a v) ∧ (c.wn n = true → c.s₀.heap.get? a = none)
  cellsA : ∀ n n' a, c.wn n = true → c.env.cells.lookup n = some a → c.env.cells.lookup n' = some a → n' = n
  own : ∀ o ∈ O, o.Ok ∧ o.p s.heap ∧ (∀ b ∈ o.fp, b ∈ o.wr ∨ ∃ ob, hb.get? b = some ob) ∧ ∀ b ∈ o.wr, Off c hb b
  disj : O.Pairwise fun x y => ∀ b ∈ x.wr, b ∉ y.wr
  pers : c.pers hb
  ext : Ext c.lo c.s₀ c.hb₀ s hb

theorem Ext.ns {w : World} {l : List Env} {s s' : Shared} {hb hb' : Heap} (B : Base w l hb s) (x : Ext l s hb s' hb') {a : Addr} {m : Str → Option Value} (n : s.heap.Ns a m) : s'.heap.Ns a m := by
  refine ns_slots n fun o e => ?_
  by_cases hp : a = PH
  · subst hp
    obtain ⟨ps, e1⟩ := B.tab.obj
    obtain ⟨o', es, ep, e2, d, _⟩ := n
    rw [e1] at e2; cases e2; cases d
  · by_cases hf : a ∈ fra l
    · exact x.kp.fr a hf hp o e
    · exact ⟨o.slots, x.kp.keep a o hp hf e⟩
theorem Ext.cell {w : World} {l : List Env} {s s' : Shared} {hb hb' : Heap} (B : Base w l hb s) (x : Ext l s hb s' hb') {a : Addr} {v : Option Value} (n : s.heap.IsCell a v) : s'.heap.IsCell a v := by
  obtain ⟨o, e, d⟩ := n
  refine ⟨o, x.kp.keep a o ?_ ?_ e, d⟩
  · rintro rfl
    obtain ⟨ps, e1⟩ := B.tab.obj
    rw [e] at e1; cases e1; cases d
  · intro hf
    obtain ⟨_, _, m, o', es, ep, e2, d', _⟩ := B.fr a hf
    rw [e] at e2; cases e2; rw [d] at d'; cases d'
theorem Sees.ext {w : World} {l : List Env} {s s' : Shared} {hb hb' : Heap} (B : Base w l hb s) (x : Ext l s hb s' hb') {env : Env} {n : Str} {v : Value} (S : Sees env s.heap n v) : Sees env s'.heap n v := by
  rcases S with ⟨h1, m, h2, h3⟩ | ⟨h1, c, h2, h3⟩
  · exact .inl ⟨h1, m, x.ns B h2, h3⟩
  · exact .inr ⟨h1, c, h2, x.cell B h3⟩

theorem Ext.off {l : List Env} {s s' : Shared} {hb hb' : Heap} (x : Ext l s hb s' hb') {b : Addr} (hn : hb.get? b = none) (hl : ∃ o, s.heap.get? b = some o) : hb'.get? b = none := by
  cases e : hb'.get? b with
  | none => rfl
  | some o =>
    obtain ⟨o', h⟩ := hl
    rcases x.gr _ _ e with h' | h'
    · rw [hn] at h'; cases h'
    · rw [h] at h'; cases h'

namespace St
variable {c : Ctx} {ρ : Rho} {O : List Own} {hb hb' : Heap} {s s' : Shared}

theorem step (S : St c ρ O hb s) (x : Ext c.l s hb s' hb') : St c ρ O hb' s' where
  ok := S.ok
  base := x.base S.base
  env := fun n d e => let ⟨v, h1, h2⟩ := S.env n d e; ⟨v, h1.ext S.base x, h2.up x.le⟩
  loc := by
    obtain ⟨⟨m, h1⟩, h2, h3⟩ := S.loc
    exact ⟨⟨m, x.ns S.base h1⟩, x.off h2 (let ⟨o, _, _, e, _⟩ := h1; ⟨o, e⟩), h3⟩
  cells := fun n a h => by
    obtain ⟨h1, h2, ⟨v, h3⟩, h4⟩ := S.cells n a h
    exact ⟨h1, x.off h2 (let ⟨o, e, _⟩ := h3; ⟨o, e⟩), ⟨v, x.cell S.base h3⟩, h4⟩
  cellsA := S.cellsA
  own := fun o ho => by
    obtain ⟨h1, h2, h3, h4⟩ := S.own o ho
    refine ⟨h1, h1.frame _ _ h2 fun b hb ob e => ?_, fun b hb => (h3 b hb).imp id fun ⟨ob, e⟩ => ⟨ob, x.le _ _ e⟩, fun b hb => ?_⟩
    · rcases h3 b hb with h | ⟨ob', h⟩
      · exact x.kp.keep b ob (h4 b h).ph (h4 b h).fr e
      · have := S.base.le b ob' h
        rw [e] at this; cases this
        exact x.le' b ob (x.le b ob h)
    · exact { h4 b hb with hb := x.off (h4 b hb).hb (let ⟨ob, e, _⟩ := h1.live _ h2 b hb; ⟨ob, e⟩) }
  disj := S.disj
  pers := S.ok.pup _ _ x.le S.pers
  ext := by
    have hnl : ∀ b o, c.s₀.heap.get? b = some o → b ∉ fra c.lo → b ∉ fra c.l := fun b o e h h' => by
      rcases S.ok.new b h' with q | q
      · exact h q
      · rw [e] at q; cases q
    refine ⟨⟨fun b o h1 h2 e => ?_, fun b h1 h2 o e => ?_, fun t => x.kp.tab (S.ext.kp.tab t), x.kp.os.trans S.ext.kp.os, S.ext.kp.bare.trans x.kp.bare⟩, fun b o e => x.le b o (S.ext.le b o e), fun b o e => ?_, x.le'⟩
    · exact x.kp.keep b o h1 (hnl b o e h2) (S.ext.kp.keep b o h1 h2 e)
    · obtain ⟨sl, e1⟩ := S.ext.kp.fr b h1 h2 o e
      obtain ⟨sl', e2⟩ := x.kp.fr b (S.ok.lolo b h1) h2 _ e1
      exact ⟨sl', e2⟩
    · rcases x.gr b o e with h | h
      · exact S.ext.gr b o h
      · exact .inr (S.ext.kp.none S.ok.tab₀ h)
end St

/-! ### triples -/
def TX (c : Ctx) (ρ : Rho) (O : List Own) {α : Type} (t : Sem α) (R : Heap → α → Prop) : Prop :=
  ∀ s hb, St c ρ O hb s → ∀ E, wpAny (MM c.w) c.A t (fun v s' => ∃ hb', Ext c.l s hb s' hb' ∧ R hb' v) E s
abbrev EX (c : Ctx) (ρ : Rho) (O : List Own) (e : Expr) (d : D) : Prop := TX c ρ O (eval e c.env) fun hb v => V hb v d

end Mine
end

/-! ## F3 -/
section
namespace Mine

def put (ρ : Rho) (x : Str) (d : D) : Rho := fun y => if y = x then some d else ρ y
def ρ0 : Rho := fun _ => none

theorem lookup_mem {α : Type} {l : List (Str × α)} {n : Str} {c : α} (h : l.lookup n = some c) : (n, c) ∈ l := mem_of_lookup h

namespace St
variable {c : Ctx} {ρ ρ' : Rho} {O O' : List Own} {hb hb' : Heap} {s s' : Shared}

theorem loc_ne (S : St c ρ O hb s) : c.env.locals ≠ PH := by
  intro h
  obtain ⟨⟨m, o, es, ep, e, d, _⟩, _⟩ := S.loc
  obtain ⟨ps, e1⟩ := S.base.tab.obj
  rw [h, e1] at e; cases e; cases d
theorem cell_ne (S : St c ρ O hb s) {n : Str} {a : Addr} (h : c.env.cells.lookup n = some a) : a ≠ PH := by
  intro hp
  obtain ⟨_, _, ⟨v, o, e, d⟩, _⟩ := S.cells n a h
  obtain ⟨ps, e1⟩ := S.base.tab.obj
  rw [hp, e1] at e; cases e; cases d
theorem cell_fr (S : St c ρ O hb s) {n : Str} {a : Addr} (h : c.env.cells.lookup n = some a) : a ∉ fra c.l := by
  intro hp
  obtain ⟨_, _, ⟨v, o, e, d⟩, _⟩ := S.cells n a h
  obtain ⟨_, _, m, o', es, ep, e2, d', _⟩ := S.base.fr a hp
  rw [e] at e2; cases e2; rw [d] at d'; cases d'


theorem mod (S : St c ρ O hb s) (s' : Shared) (W : Addr → Prop) (hk : ∀ b o, ¬ W b → s.heap.get? b = some o → s'.heap.get? b = some o)
    (ho : s'.os = s.os) (hg : GK s.gens s'.gens)
    (hW : ∀ b, W b → hb.get? b = none ∧ c.s₀.heap.get? b = none ∧ b ≠ PH ∧ ∀ o, s.heap.get? b = some o → ¬ CodeObj o geQual)
    (hfr : ∀ b ∈ fra c.l, ∃ m, s'.heap.Ns b m) (henv : ∀ x d, ρ' x = some d → ∃ v, Sees c.env s'.heap x v ∧ V hb v d)
    (hloc : ∃ m, s'.heap.Ns c.env.locals m) (hcells : ∀ n a, c.env.cells.lookup n = some a → ∃ v, s'.heap.IsCell a v)
    (hown : ∀ o ∈ O', o.Ok ∧ o.p s'.heap ∧ (∀ b ∈ o.fp, b ∈ o.wr ∨ ∃ ob, hb.get? b = some ob) ∧ ∀ b ∈ o.wr, Off c hb b)
    (hdisj : O'.Pairwise fun x y => ∀ b ∈ x.wr, b ∉ y.wr) : St c ρ' O' hb s' := by
  have hle : Le hb s'.heap := fun b o e => hk b o (fun w => by rw [(hW b w).1] at e; cases e) (S.base.le b o e)
  have htab : Tab s.heap → Tab s'.heap := fun ⟨ps, h1, h2, h3⟩ => by
    have hCH : hb.get? CH = some (o_169 c.w.params) := S.base.gd.frag CH (o_169 c.w.params) rfl
    have hC : s'.heap.get? CH = s.heap.get? CH := (hle _ _ hCH).trans (S.base.le _ _ hCH).symm
    have hPHk : ∀ o, s.heap.get? PH = some o → s'.heap.get? PH = some o := fun o e => hk PH o (fun w => (hW PH w).2.2.1 rfl) e
    obtain ⟨o1, vs, file, tf, flags, tg, inF, text, tt, op, a1, a2, a3, a4, a5, a6, a7, a8, a9, a10, a11⟩ := h1
    obtain ⟨⟨o2, vs2, b1, b2, b3, b4⟩, b5⟩ := h2
    refine ⟨ps, ⟨o1, vs, file, tf, flags, tg, inF, text, tt, op, hC.trans a1, a2, a3, a4, a5, a6, a7, hPHk _ a8, a9, a10, a11⟩, ⟨⟨o2, vs2, hC.trans b1, b2, b3, b4⟩, hPHk _ b5⟩, h3.imp id ?_⟩
    rintro ⟨c', o3, h4, h5, h6⟩
    exact ⟨c', o3, h4, hk c' o3 (fun w => (hW c' w).2.2.2 o3 h5 h6) h5, h6⟩
  refine ⟨S.ok, ⟨hle, S.base.ph, fun b hb => ⟨(S.base.fr b hb).1, (S.base.fr b hb).2.1, hfr b hb⟩, S.base.gd, htab S.base.tab, S.base.fk⟩, henv, ⟨hloc, S.loc.2⟩,
    fun n a h => ⟨(S.cells n a h).1, (S.cells n a h).2.1, hcells n a h, (S.cells n a h).2.2.2⟩, S.cellsA, hown, hdisj, S.pers, ?_⟩
  refine ⟨⟨fun b o h1 h2 e => ?_, fun b h1 h2 o e => ?_, fun t => htab (S.ext.kp.tab t), ho.trans S.ext.kp.os, S.ext.kp.bare.trans hg⟩, S.ext.le, S.ext.gr, hle⟩
  · exact hk b o (fun w => by rw [(hW b w).2.1] at e; cases e) (S.ext.kp.keep b o h1 h2 e)
  · obtain ⟨sl, e1⟩ := S.ext.kp.fr b h1 h2 o e
    exact ⟨sl, hk b _ (fun w => by rw [(hW b w).2.1] at e; cases e) e1⟩

theorem ncode_loc (S : St c ρ O hb s) : ∀ o, s.heap.get? c.env.locals = some o → ¬ CodeObj o geQual := by
  rintro o e ⟨_, vs, t, h1, _⟩
  obtain ⟨⟨m, o', es, ep, e', d, _⟩, _⟩ := S.loc
  rw [e'] at e; cases e; rw [h1] at d; cases d
theorem ncode_cell (S : St c ρ O hb s) {n : Str} {a : Addr} (h : c.env.cells.lookup n = some a) : ∀ o, s.heap.get? a = some o → ¬ CodeObj o geQual := by
  rintro o e ⟨_, vs, t, h1, _⟩
  obtain ⟨_, _, ⟨v, o', e', d⟩, _⟩ := S.cells n a h
  rw [e'] at e; cases e; rw [h1] at d; cases d

/-- a local name is written -/
theorem write_local (S : St c ρ O hb s) {x : Str} {v : Value} {d : D} (hw : c.wl = true) (hx : c.env.kindOf x = some .local) (hv : V hb v d) {A : Around} {E : Value → Shared → Prop} :
    wpAny (MM c.w) A (storeName c.env x v) (fun _ s' => St c (put ρ x d) O hb s') E s := by
  obtain ⟨⟨m, hm⟩, hL, hL0'⟩ := S.loc
  have hL0 := hL0' hw
  refine wpAny_storeName_local hx hm (fun h' hn hs => ?_) (by rw [S.ok.kind]; rfl)
  have hk : ∀ b o, b ≠ c.env.locals → s.heap.get? b = some o → h'.get? b = some o := fun b o h e => (hs.2 b h).trans e
  refine S.mod _ (fun b => b = c.env.locals) hk rfl gid (by rintro b rfl; exact ⟨hL, hL0, S.loc_ne, S.ncode_loc⟩) ?_ ?_ ⟨_, hn⟩ ?_ ?_ S.disj
  · intro b hb
    by_cases h : b = c.env.locals
    · subst h; exact ⟨_, hn⟩
    · obtain ⟨_, _, m', h3⟩ := S.base.fr b hb; exact ⟨m', h3.at' fun o e => hk b o h e⟩
  · intro y d' hy
    unfold put at hy
    by_cases h : y = x
    · subst h; rw [if_pos rfl] at hy; cases hy
      exact ⟨v, .inl ⟨hx, _, hn, by simp⟩, hv⟩
    · rw [if_neg h] at hy
      obtain ⟨u, hs', hu⟩ := S.env y d' hy
      refine ⟨u, ?_, hu⟩
      rcases hs' with ⟨h1, m', h2, h3⟩ | ⟨h1, cc, h2, h3⟩
      · refine .inl ⟨h1, _, hn, ?_⟩
        have : m' y = m y := by
          obtain ⟨o1, es1, ep1, g1, d1, _, f1⟩ := h2
          obtain ⟨o2, es2, ep2, g2, d2, _, f2⟩ := hm
          rw [g1] at g2; cases g2; rw [d1] at d2; cases d2
          rw [← f1, ← f2]
        simp only [if_neg h]; rw [← this]; exact h3
      · refine .inr ⟨h1, cc, h2, ?_⟩
        obtain ⟨o, e, dd⟩ := h3
        exact ⟨o, hk cc o (S.cells y cc h2).1 e, dd⟩
  · intro n a h
    obtain ⟨h1, _, ⟨u, o, e, dd⟩, _⟩ := S.cells n a h
    exact ⟨u, o, hk a o h1 e, dd⟩
  · intro o ho
    obtain ⟨h1, h2, h3, h4⟩ := S.own o ho
    refine ⟨h1, h1.frame _ _ h2 fun b hb ob e => hk b ob ?_ e, h3, h4⟩
    rintro rfl
    rcases h3 _ hb with h | ⟨ob', h⟩
    · exact (h4 _ h).loc rfl
    · rw [hL] at h; cases h

/-- a cell is written -/
theorem write_cell (S : St c ρ O hb s) {x : Str} {v : Value} {d : D} {ca : Addr} (hf : c.wn x = true) (hx : c.env.kindOf x = some .cell) (hc : c.env.cells.lookup x = some ca) (hv : V hb v d)
    {E : Value → Shared → Prop} : wpAny (MM c.w) c.A (storeName c.env x v) (fun _ s' => St c (put ρ x d) O hb s') E s := by
  obtain ⟨hcl, hcb, ⟨v₀, hcv⟩, hc0⟩ := S.cells x ca hc
  refine wpAny_storeName_cell S.ok.kind hx hc hcv fun h' hn hs => ?_
  have hk : ∀ b o, b ≠ ca → s.heap.get? b = some o → h'.get? b = some o := fun b o h e => (hs.2 b h).trans e
  refine S.mod _ (fun b => b = ca) hk rfl gid (by rintro b rfl; exact ⟨hcb, hc0 hf, S.cell_ne hc, S.ncode_cell hc⟩) ?_ ?_ ?_ ?_ ?_ S.disj
  · intro b hb
    obtain ⟨_, _, m', h3⟩ := S.base.fr b hb
    exact ⟨m', h3.at' fun o e => hk b o (fun h => S.cell_fr hc (h ▸ hb)) e⟩
  · intro y d' hy
    unfold put at hy
    by_cases h : y = x
    · subst h; rw [if_pos rfl] at hy; cases hy
      exact ⟨v, .inr ⟨.inl hx, ca, hc, hn⟩, hv⟩
    · rw [if_neg h] at hy
      obtain ⟨u, hs', hu⟩ := S.env y d' hy
      refine ⟨u, ?_, hu⟩
      rcases hs' with ⟨h1, m', h2, h3⟩ | ⟨h1, cc, h2, h3⟩
      · exact .inl ⟨h1, _, h2.at' fun o e => hk _ o (Ne.symm hcl) e, h3⟩
      · refine .inr ⟨h1, cc, h2, ?_⟩
        obtain ⟨o, e, dd⟩ := h3
        refine ⟨o, hk cc o (fun q => h ?_) e, dd⟩
        exact S.cellsA x y ca hf hc (q ▸ h2)
  · obtain ⟨⟨m, hm⟩, _⟩ := S.loc
    exact ⟨m, hm.at' fun o e => hk _ o (Ne.symm hcl) e⟩
  · intro n a h
    by_cases q : a = ca
    · subst q; exact ⟨_, hn⟩
    · obtain ⟨h1, _, ⟨u, o, e, dd⟩, _⟩ := S.cells n a h
      exact ⟨u, o, hk a o q e, dd⟩
  · intro o ho
    obtain ⟨h1, h2, h3, h4⟩ := S.own o ho
    refine ⟨h1, h1.frame _ _ h2 fun b hb ob e => hk b ob ?_ e, h3, h4⟩
    rintro rfl
    rcases h3 _ hb with h | ⟨ob', h⟩
    · exact (h4 _ h).cell x _ hc rfl
    · rw [hcb] at h; cases h

/-- one owned thing is written: the head of the list -/
theorem write_own {o₁ o₂ : Own} (S : St c ρ (o₁ :: O) hb s) (s' : Shared) (hk : ∀ b o, b ∉ o₁.wr → s.heap.get? b = some o → s'.heap.get? b = some o)
    (ho : s'.os = s.os) (hg : GK s.gens s'.gens) (hok : o₂.Ok) (hp : o₂.p s'.heap) (hw : ∀ b ∈ o₂.wr, b ∈ o₁.wr) (hfp : ∀ b ∈ o₂.fp, b ∈ o₂.wr ∨ ∃ ob, hb.get? b = some ob) :
    St c ρ (o₂ :: O) hb s' := by
  obtain ⟨k1, k2, k3, k4⟩ := S.own o₁ (List.mem_cons_self ..)
  obtain ⟨d1, d2⟩ := List.pairwise_cons.mp S.disj
  refine S.mod s' (fun b => b ∈ o₁.wr) hk ho hg (fun b h => ⟨(k4 b h).hb, (k4 b h).s₀, (k4 b h).ph, fun o e => ?_⟩) ?_ ?_ ?_ ?_ ?_ (List.pairwise_cons.mpr ⟨fun y hy b h => d1 y hy b (hw b h), d2⟩)
  · obtain ⟨ob, e', hc⟩ := k1.live _ k2 b h
    rw [e] at e'; cases e'
    exact fun q => hc q.1
  · intro b hb
    obtain ⟨_, _, m', h3⟩ := S.base.fr b hb
    exact ⟨m', h3.at' fun o e => hk b o (fun h => (k4 b h).fr hb) e⟩
  · intro y d' hy
    obtain ⟨u, hs', hu⟩ := S.env y d' hy
    refine ⟨u, ?_, hu⟩
    rcases hs' with ⟨h1, m', h2, h3⟩ | ⟨h1, cc, h2, h3⟩
    · exact .inl ⟨h1, _, h2.at' fun o e => hk _ o (fun h => (k4 _ h).loc rfl) e, h3⟩
    · refine .inr ⟨h1, cc, h2, ?_⟩
      obtain ⟨o, e, dd⟩ := h3
      exact ⟨o, hk cc o (fun q => (k4 _ q).cell _ _ h2 rfl) e, dd⟩
  · obtain ⟨⟨m, hm⟩, _⟩ := S.loc
    exact ⟨m, hm.at' fun o e => hk _ o (fun h => (k4 _ h).loc rfl) e⟩
  · intro n a h
    obtain ⟨h1, _, ⟨u, o, e, dd⟩, _⟩ := S.cells n a h
    exact ⟨u, o, hk a o (fun q => (k4 _ q).cell _ _ h rfl) e, dd⟩
  · intro o ho
    rcases List.mem_cons.mp ho with rfl | ho
    · exact ⟨hok, hp, hfp, fun b h => k4 b (hw b h)⟩
    · obtain ⟨h1, h2, h3, h4⟩ := S.own o (List.mem_cons_of_mem _ ho)
      refine ⟨h1, h1.frame _ _ h2 fun b hb ob e => hk b ob ?_ e, h3, h4⟩
      intro q
      rcases h3 _ hb with h | ⟨ob', h⟩
      · exact d1 o ho b q h
      · rw [(k4 _ q).hb] at h; cases h

/-- owned things may be let go -/
theorem drop {o : Own} (S : St c ρ (o :: O) hb s) : St c ρ O hb s :=
  { S with own := fun o' h => S.own o' (List.mem_cons_of_mem _ h), disj := (List.pairwise_cons.mp S.disj).2 }
/-- names may be forgotten -/
theorem less (S : St c ρ O hb s) (h : ∀ x d, ρ' x = some d → ρ x = some d) : St c ρ' O hb s := { S with env := fun x d e => S.env x d (h x d e) }
/-- something new is owned -/
theorem take {s₁ : Shared} {hb₁ : Heap} {ρ₁ : Rho} {o : Own} (S₁ : St c ρ₁ O hb₁ s₁) (S : St c ρ O hb s) (hok : o.Ok) (hp : o.p s.heap) (hfp : ∀ b ∈ o.fp, b ∈ o.wr ∨ ∃ ob, hb.get? b = some ob)
    (hnew : ∀ b ∈ o.wr, s₁.heap.get? b = none) (hoff : ∀ b ∈ o.wr, hb.get? b = none) : St c ρ (o :: O) hb s := by
  refine { S with own := fun o' h => ?_, disj := List.pairwise_cons.mpr ⟨fun y hy b h q => ?_, S.disj⟩ }
  · rcases List.mem_cons.mp h with rfl | h
    · refine ⟨hok, hp, hfp, fun b hb' => ⟨hoff b hb', ?_, ?_, ?_, ?_, ?_⟩⟩
      · exact S₁.ext.kp.none S₁.ok.tab₀ (hnew b hb')
      · rintro rfl; obtain ⟨ps, e⟩ := S₁.base.tab.obj; rw [hnew _ hb'] at e; cases e
      · intro q; obtain ⟨_, _, m, o', _, _, e, _⟩ := S₁.base.fr b q; rw [hnew _ hb'] at e; cases e
      · rintro rfl; obtain ⟨⟨m, o', _, _, e, _⟩, _⟩ := S₁.loc; rw [hnew _ hb'] at e; cases e
      · rintro n a h rfl; obtain ⟨_, _, ⟨u, o', e, _⟩, _⟩ := S₁.cells n a h; rw [hnew _ hb'] at e; cases e
    · exact S.own o' h
  · obtain ⟨h1, h2, _⟩ := S₁.own y hy
    obtain ⟨ob, e, _⟩ := h1.live _ h2 b q
    rw [hnew b h] at e; cases e
/-- what is owned is one list of things -/
theorem swap {o₁ o₂ : Own} (S : St c ρ (o₁ :: o₂ :: O) hb s) : St c ρ (o₂ :: o₁ :: O) hb s := by
  refine { S with own := fun o h => S.own o ?_, disj := ?_ }
  · simp only [List.mem_cons] at h ⊢; rcases h with h | h | h <;> simp [h]
  · obtain ⟨h1, h2⟩ := List.pairwise_cons.mp S.disj
    obtain ⟨h3, h4⟩ := List.pairwise_cons.mp h2
    refine List.pairwise_cons.mpr ⟨fun y hy => ?_, List.pairwise_cons.mpr ⟨fun y hy => h1 y (List.mem_cons_of_mem _ hy), h4⟩⟩
    rcases List.mem_cons.mp hy with rfl | hy
    · exact fun b hb hb' => h1 o₂ (List.mem_cons_self ..) b hb' hb
    · exact h3 y hy
end St
end Mine
end

/-! ## F4 -/
section
namespace Mine

inductive Out where
  | next (ρ : Rho) (O : List Own)
  | cont (ρ : Rho) (O : List Own)
  | ret (d : D)

def Done (c : Ctx) : Out → Flow → Heap → Shared → Prop
  | .next ρ O, .next, hb, s => St c ρ O hb s
  | .cont ρ O, .cont, hb, s => St c ρ O hb s
  | .ret d, .ret v, hb, s => V hb v d ∧ Ext c.lo c.s₀ c.hb₀ s hb
  | _, _, _, _ => False

/-- the triple of statements -/
def SX (c : Ctx) (ρ : Rho) (O : List Own) (t : Sem Flow) (K : Out → Prop) : Prop :=
  ∀ s hb, St c ρ O hb s → ∀ E, wpAny (MM c.w) c.A t (fun f s' => ∃ out hb', K out ∧ Le hb hb' ∧ Done c out f hb' s') E s
abbrev SB (c : Ctx) (ρ : Rho) (O : List Own) (ss : List Stmt) (K : Out → Prop) : Prop := SX c ρ O (execs ss c.env) K

section
variable {c : Ctx} {ρ ρ' : Rho} {O O' : List Own} {hb hb' : Heap} {s s' : Shared} {α β : Type}

theorem wpx {t : Sem α} {R : Heap → α → Prop} (S : St c ρ O hb s) (h : TX c ρ O t R) {Q : α → Shared → Prop} {E : Value → Shared → Prop}
    (k : ∀ v s' hb', Ext c.l s hb s' hb' → St c ρ O hb' s' → R hb' v → Q v s') : wpAny (MM c.w) c.A t Q E s :=
  wpAny_mono (h s hb S E) (fun v s' ⟨hb', x, r⟩ => k v s' hb' x (S.step x) r) fun _ _ e => e
theorem St.same (S : St c ρ O hb s) (k : Keeps s s') : Ext c.l s hb s' hb := .same S.base (.of_keeps k)
theorem keeps_tok (s : Shared) (n : Nat) : Keeps s { s with toks := n } := ⟨s.heap, n, rfl, fun _ _ e => e⟩
theorem keeps_refl (s : Shared) : Keeps s s := ⟨s.heap, s.toks, rfl, fun _ _ e => e⟩
theorem keeps_push (s : Shared) (o : Obj) (n : Nat) : Keeps s { s with heap := s.heap.push o, toks := n } := ⟨_, n, rfl, fun _ _ e => Heap.get?_push_of_some _ e⟩
theorem St.refl (S : St c ρ O hb s) : Ext c.l s hb s hb := .refl S.base
theorem St.tok (S : St c ρ O hb s) (n : Nat) : Ext c.l s hb { s with toks := n } hb := S.same (keeps_tok s n)

theorem TX.mono {t : Sem α} {R R' : Heap → α → Prop} (h : TX c ρ O t R) (k : ∀ hb v, R hb v → R' hb v) : TX c ρ O t R' :=
  fun s hb S E => wpAny_mono (h s hb S E) (fun v _ ⟨hb', x, r⟩ => ⟨hb', x, k _ _ r⟩) fun _ _ e => e
theorem TX.pureX {a : α} {R : Heap → α → Prop} (h : ∀ hb, R hb a) : TX c ρ O (Pure.pure a) R := fun _ _ S _ => wpAny_pure ⟨_, S.refl, h _⟩

/-! ### names and constants -/

theorem EX.name {x : Str} {pos : Pos} {d : D} (h : ρ x = some d) (hd : (x == ("__debug__" : Str)) = false := by decide) (hn : (x == ("__classdict__" : Str)) = false := by decide) :
    EX c ρ O (.Name x pos) d := by
  intro s hb S E
  obtain ⟨v, h1, h2⟩ := S.env x d h
  refine wpAny_Name ?_ hd
  rcases h1 with ⟨h1, m, h3, h4⟩ | ⟨h1, a, h3, h4⟩
  · exact wpAny_loadName_local S.ok.kind h1 h3 h4 ⟨hb, S.refl, h2⟩
  · rcases h1 with h1 | h1
    · exact wpAny_loadName_cell S.ok.kind h1 h3 h4 ⟨hb, S.refl, h2⟩
    · exact wpAny_loadName_free S.ok.kind h1 h3 h4 ⟨hb, S.refl, h2⟩ hn

theorem EX.glob {x : Str} {pos : Pos} {v : Value} (hx : c.env.kindOf x = some .globalImplicit) (h : ∀ P, nsIn (KG P) mainGlobals x = some (some v)) (hd : (x == ("__debug__" : Str)) = false := by decide) :
    EX c ρ O (.Name x pos) (.raw v) := by
  intro s hb S E
  obtain ⟨mg, G⟩ := S.base.gd.mg
  refine Calls.Name_function_global S.ok.kind hx (Calls.loadGlobal_global (mg := mg) (by rw [S.ok.glob]; exact G.keeps S.base.le) (mg_of S.base.gd.frag G (h _)) ⟨hb, S.refl, rfl⟩) hd

theorem EX.builtin {x : Str} {pos : Pos} {v : Value} (hx : c.env.kindOf x = some .globalImplicit) (h : ∀ P, nsIn (KG P) mainGlobals x = some none) (hv : bootBuiltins x = some v) (hn : x ≠ "__name__" := by decide)
    (hd : (x == ("__debug__" : Str)) = false := by decide) :
    EX c ρ O (.Name x pos) (.raw v) := by
  intro s hb S E
  obtain ⟨mg, G⟩ := S.base.gd.mg
  obtain ⟨mb, B, hB⟩ := S.base.gd.bi
  refine Calls.Name_function_global S.ok.kind hx (Calls.loadGlobal_builtin (mg := mg) (mb := mb) (by rw [S.ok.glob]; exact G.keeps S.base.le) (mg_none_of S.base.gd.frag G (h _))
    (by rw [S.ok.bi]; exact B.keeps S.base.le) ((hB x hn).trans hv) ⟨hb, S.refl, rfl⟩) hd

theorem V.int {h : Heap} {i : Int} {t : Tok} : V h (.int i t) (.py (.int i)) := ⟨_, .int i t⟩
theorem V.str {h : Heap} {i : Str} {t : Tok} : V h (.str i t) (.py (.str i)) := ⟨_, .str i t⟩
theorem V.bool {h : Heap} {i : Bool} : V h (.bool i) (.py (.bool i)) := ⟨_, .bool i⟩
theorem V.none {h : Heap} : V h .none (.py .none) := ⟨_, .none⟩

theorem EX.int {i : Int} {k : Nat} {pos : Pos} : EX c ρ O (.Constant (.int i) k pos) (.py (.int i)) := fun _ hb S _ => wpAny_Constant_int ⟨hb, S.tok _, V.int⟩
theorem EX.str {x : Str} {k : Nat} {pos : Pos} : EX c ρ O (.Constant (.str x) k pos) (.py (.str x)) := fun _ hb S _ => wpAny_Constant_str ⟨hb, S.tok _, V.str⟩
theorem EX.noneX {k : Nat} {pos : Pos} : EX c ρ O (.Constant .none k pos) (.py .none) := fun _ hb S _ => wpAny_Constant_none ⟨hb, S.refl, V.none⟩
theorem EX.bool {b : Bool} {k : Nat} {pos : Pos} : EX c ρ O (.Constant (.bool b) k pos) (.py (.bool b)) := fun _ hb S _ => wpAny_Constant_bool ⟨hb, S.refl, V.bool⟩

/-! ### operators -/
def OpX (op : Operator) (d₁ d₂ d : D) : Prop := ∀ (c : Ctx) (ρ : Rho) (O : List Own) (s : Shared) (hb : Heap) (v₁ v₂ : Value), St c ρ O hb s → V hb v₁ d₁ → V hb v₂ d₂ →
  ∀ E, wpAny (MM c.w) c.A (binaryOp op v₁ v₂) (fun v s' => ∃ hb', Ext c.l s hb s' hb' ∧ V hb' v d) E s
def CmX (op : CmpOp) (d₁ d₂ : D) (b : Bool) : Prop := ∀ (c : Ctx) (ρ : Rho) (O : List Own) (s : Shared) (hb : Heap) (v₁ v₂ : Value), St c ρ O hb s → V hb v₁ d₁ → V hb v₂ d₂ →
  ∀ E (Q : Value → Shared → Prop), Q (.bool b) s → wpAny (MM c.w) c.A (compareOp op v₁ v₂) Q E s

theorem EX.bin {e₁ e₂ : Expr} {op : Operator} {pos : Pos} {d₁ d₂ d : D} (h₁ : EX c ρ O e₁ d₁) (h₂ : EX c ρ O e₂ d₂) (h : OpX op d₁ d₂ d) : EX c ρ O (.BinOp e₁ op e₂ pos) d := by
  intro s hb S E
  refine wpAny_BinOp (wpx S h₁ fun v₁ s₁ hb₁ x₁ S₁ r₁ => wpx S₁ h₂ fun v₂ s₂ hb₂ x₂ S₂ r₂ => wpAny_mono (h _ _ _ _ _ _ _ S₂ (r₁.up x₂.le) r₂ E) (fun v s' ⟨hb', x, r⟩ => ?_) fun _ _ e => e)
  exact ⟨hb', (x₁.trans S.base x₂).trans S.base x, r⟩
theorem EX.cmp {e₁ e₂ : Expr} {op : CmpOp} {pos : Pos} {d₁ d₂ : D} {b : Bool} (h₁ : EX c ρ O e₁ d₁) (h₂ : EX c ρ O e₂ d₂) (h : CmX op d₁ d₂ b) (hm : behindInMarks op e₂ = false := by rfl) :
    EX c ρ O (.Compare e₁ [op] [e₂] pos) (.py (.bool b)) := by
  intro s hb S E
  refine wpAny_Compare1 (wpx S h₁ fun v₁ s₁ hb₁ x₁ S₁ r₁ => wpx S₁ h₂ fun v₂ s₂ hb₂ x₂ S₂ r₂ => h _ _ _ _ _ _ _ S₂ (r₁.up x₂.le) r₂ E _ ?_) hm
  exact ⟨hb₂, x₁.trans S.base x₂, V.bool⟩

/-! ### truth -/
abbrev TR (c : Ctx) (ρ : Rho) (O : List Own) (e : Expr) (b : Bool) : Prop := TX c ρ O (isTrue e c.env (eval e c.env)) fun _ x => x = b
theorem TR.cmp {e₁ e₂ : Expr} {op : CmpOp} {pos : Pos} {d₁ d₂ : D} {b : Bool} (h₁ : EX c ρ O e₁ d₁) (h₂ : EX c ρ O e₂ d₂) (h : CmX op d₁ d₂ b) (hm : behindInMarks op e₂ = false := by rfl) :
    TR c ρ O (.Compare e₁ [op] [e₂] pos) b := by
  intro s hb S E
  refine wpAny_isTrue_Compare1 (wpx S h₁ fun v₁ s₁ hb₁ x₁ S₁ r₁ => wpx S₁ h₂ fun v₂ s₂ hb₂ x₂ S₂ r₂ => h _ _ _ _ _ _ _ S₂ (r₁.up x₂.le) r₂ E _ ?_) hm
  exact wpAny_truthy_bool ⟨hb₂, x₁.trans S.base x₂, rfl⟩
theorem TR.not {e : Expr} {pos : Pos} {b b' : Bool} (h : TR c ρ O e b) (hb' : b' = !b) : TR c ρ O (.UnaryOp .Not e pos) b' := by
  intro s hb S E
  rw [arm_isTrue_UnaryOp]
  refine wpAny_bind (wpx S h fun v s₁ hb₁ x₁ S₁ r₁ => wpAny_pure ⟨hb₁, x₁, by rw [r₁, hb']⟩)

theorem EX.ite {t a b : Expr} {pos : Pos} {d : D} {k : Bool} (ht : TR c ρ O t k) (ha : k = true → EX c ρ O a d) (hb : k = false → EX c ρ O b d) : EX c ρ O (.IfExp t a b pos) d := by
  intro s hb0 S E
  refine wpAny_IfExp (wpx S ht fun v s₁ hb₁ x₁ S₁ r₁ => ?_)
  subst r₁
  cases v with
  | true => exact wpx S₁ (ha rfl) fun v s₂ hb₂ x₂ S₂ r₂ => ⟨hb₂, x₁.trans S.base x₂, r₂⟩
  | false => exact wpx S₁ (hb rfl) fun v s₂ hb₂ x₂ S₂ r₂ => ⟨hb₂, x₁.trans S.base x₂, r₂⟩

/-! ### statements -/
theorem SB.nil {K : Out → Prop} (h : K (.next ρ O)) : SB c ρ O [] K := fun s hb S _ => wpAny_execs_nil ⟨_, hb, h, fun _ _ e => e, S⟩
theorem SB.ret {e : Expr} {pos : Pos} {rest : List Stmt} {d : D} {K : Out → Prop} (h : EX c ρ O e d) (hK : K (.ret d)) : SB c ρ O (.Return (some e) pos :: rest) K := by
  intro s hb S E
  refine wpAny_execs_cons (wpAny_Return_some (wpx S h fun v s₁ hb₁ x₁ S₁ r₁ => ?_))
  exact ⟨_, hb₁, hK, x₁.le, r₁, S₁.ext⟩

/-- what follows a block -/
def Then (c : Ctx) (rest : List Stmt) (K : Out → Prop) : Out → Prop
  | .next ρ O => SB c ρ O rest K
  | o => K o
theorem SX.seq {st : Stmt} {rest : List Stmt} {K : Out → Prop} (h : SX c ρ O (exec st c.env) (Then c rest K)) : SB c ρ O (st :: rest) K := by
  intro s hb S E
  refine wpAny_execs_cons (wpAny_mono (h s hb S E) (fun f s₁ ⟨out, hb₁, hK, hle, hd⟩ => ?_) fun _ _ e => e)
  cases out with
  | next ρ' O' =>
    cases f <;> first | exact hd.elim | skip
    exact wpAny_mono (hK s₁ hb₁ hd E) (fun _ _ ⟨o, hb₂, a, b, c⟩ => ⟨o, hb₂, a, fun x y e => b x y (hle x y e), c⟩) fun _ _ e => e
  | cont ρ' O' =>
    cases f <;> first | exact ⟨_, hb₁, hK, hle, hd⟩ | exact hd.elim
  | ret d =>
    cases f <;> first | exact ⟨_, hb₁, hK, hle, hd⟩ | exact hd.elim
theorem SX.mono {t : Sem Flow} {K K' : Out → Prop} (h : SX c ρ O t K) (k : ∀ o, K o → K' o) : SX c ρ O t K' :=
  fun s hb S E => wpAny_mono (h s hb S E) (fun _ _ ⟨o, hb', a, b⟩ => ⟨o, hb', k o a, b⟩) fun _ _ e => e
theorem SX.up {t : Sem Flow} {K : Out → Prop} (h : SX c ρ O t K) {hb₀ : Heap} (S : St c ρ O hb s) (k : Le hb₀ hb) (E : Value → Shared → Prop) :
    wpAny (MM c.w) c.A t (fun f s' => ∃ out hb', K out ∧ Le hb₀ hb' ∧ Done c out f hb' s') E s :=
  wpAny_mono (h s hb S E) (fun _ _ ⟨o, hb', a, b, c⟩ => ⟨o, hb', a, fun x y e => b x y (k x y e), c⟩) fun _ _ e => e
theorem SX.if {t : Expr} {a b : List Stmt} {pos : Pos} {k : Bool} {K : Out → Prop} (ht : TR c ρ O t k) (h : SB c ρ O (if k then a else b) K) : SX c ρ O (exec (.If t a b pos) c.env) K := by
  intro s hb S E
  refine wpAny_If (wpx S ht fun v s₁ hb₁ x₁ S₁ r₁ => ?_)
  subst r₁
  cases v <;> exact SX.up h S₁ x₁.le E
theorem SB.if {t : Expr} {a b rest : List Stmt} {pos : Pos} {k : Bool} {K : Out → Prop} (ht : TR c ρ O t k) (h : SB c ρ O (if k then a else b) (Then c rest K)) : SB c ρ O (.If t a b pos :: rest) K :=
  SX.seq (SX.if ht h)
theorem SX.cont {pos : Pos} {K : Out → Prop} (h : K (.cont ρ O)) : SX c ρ O (exec (.Continue pos) c.env) K := fun _ hb S _ => wpAny_Continue ⟨_, hb, h, fun _ _ e => e, S⟩

/-- how a name is stored -/
def Sto (c : Ctx) (x : Str) : Prop := (c.wl = true ∧ c.env.kindOf x = some .local) ∨ (c.wn x = true ∧ c.env.kindOf x = some .cell ∧ ∃ a, c.env.cells.lookup x = some a)
theorem St.store (S : St c ρ O hb s) {x : Str} {v : Value} {d : D} (hx : Sto c x) (hv : V hb v d) {E : Value → Shared → Prop} :
    wpAny (MM c.w) c.A (storeName c.env x v) (fun _ s' => St c (put ρ x d) O hb s') E s := by
  rcases hx with ⟨h0, h⟩ | ⟨h1, h2, a, h3⟩
  · exact S.write_local h0 h hv
  · exact S.write_cell h1 h2 h3 hv
theorem SX.assign {x : Str} {e : Expr} {pos pos' : Pos} {d : D} {K : Out → Prop} (h : EX c ρ O e d) (hx : Sto c x) (hK : K (.next (put ρ x d) O))
    (hs : swapsWith e (some (.Name x pos')) pos.line c.env = pure false := by rfl) : SX c ρ O (exec (.Assign [.Name x pos'] e pos) c.env) K := by
  intro s hb S E
  refine wpAny_Assign_Name (wpx S h fun v s₁ hb₁ x₁ S₁ r₁ => wpAny_mono (S₁.store hx r₁) (fun _ s₂ S₂ => ?_) fun _ _ e => e) hs
  exact ⟨_, hb₁, hK, x₁.le, S₂⟩
theorem SB.assign {x : Str} {e : Expr} {pos pos' : Pos} {d : D} {rest : List Stmt} {K : Out → Prop} (h : EX c ρ O e d) (hx : Sto c x) (hK : SB c (put ρ x d) O rest K)
    (hs : swapsWith e (some (.Name x pos')) pos.line c.env = pure false := by rfl) : SB c ρ O (.Assign [.Name x pos'] e pos :: rest) K := SX.seq (SX.assign h hx hK hs)
end
end Mine
end

/-! ## F5 -/
section
namespace Mine

inductive VL (h : Heap) : List Value → List D → Prop
  | nil : VL h [] []
  | cons {v vs d ds} : V h v d → VL h vs ds → VL h (v :: vs) (d :: ds)
theorem VL.up {h h' : Heap} (k : Le h h') : ∀ {vs ds}, VL h vs ds → VL h' vs ds
  | _, _, .nil => .nil
  | _, _, .cons a b => .cons (a.up k) (b.up k)
theorem VL.append {h : Heap} : ∀ {vs ds us es}, VL h vs ds → VL h us es → VL h (vs ++ us) (ds ++ es)
  | _, _, _, _, .nil, y => y
  | _, _, _, _, .cons a b, y => .cons a (b.append y)
theorem VL.length {h : Heap} : ∀ {vs ds}, VL h vs ds → vs.length = ds.length
  | _, _, .nil => rfl
  | _, _, .cons _ b => by simp [b.length]
theorem VL.reads {h : Heap} : ∀ {xs : List PyData} {vs : List Value}, VL h vs (xs.map .py) → ∃ as, ReadsAll h vs xs as
  | [], _, .nil => ⟨_, .nil⟩
  | _ :: _, _, .cons ⟨_, a⟩ b => let ⟨_, b⟩ := b.reads; ⟨_, .cons a b⟩
theorem VL.of_reads {h : Heap} : ∀ {xs : List PyData} {vs : List Value} {as : List Addr}, ReadsAll h vs xs as → VL h vs (xs.map .py)
  | _, _, _, .nil => .nil
  | _, _, _, .cons a b => .cons ⟨_, a⟩ (VL.of_reads b)

inductive KL (h : Heap) : List (Str × Value) → List (Str × D) → Prop
  | nil : KL h [] []
  | cons {n v vs d ds} : V h v d → KL h vs ds → KL h ((n, v) :: vs) ((n, d) :: ds)
theorem KL.up {h h' : Heap} (k : Le h h') : ∀ {vs ds}, KL h vs ds → KL h' vs ds
  | _, _, .nil => .nil
  | _, _, .cons a b => .cons (a.up k) (b.up k)

structure VA (h : Heap) (a : Args) (ds : List D) (kw : List (Str × D)) : Prop where
  pos : VL h a.pos ds
  kw : KL h a.kw kw

/-- what a call gives: one contract for one callee -/
def FnC (w : World) (f : Value) (n : Nat) (P : Heap → Prop) (ds : List D) (kw : List (Str × D)) (R : Heap → Value → Prop) : Prop :=
  ∀ A l s hb, Room n A l → Base w l hb s → P hb → ∀ a, VA hb a ds kw → ∀ E, wpAny (MM w) A (call f a.pos a.kw) (fun v s' => ∃ hb', Ext l s hb s' hb' ∧ R hb' v) E s

def Post (l : List Env) (s : Shared) (hb : Heap) (R : Heap → Value → Prop) (r : Result) (s' : Shared) : Prop :=
  ∃ v hb', r = .ok (.ret v) ∧ Ext l s hb s' hb' ∧ R hb' v
/-- the same, of the code itself -/
def CoC (w : World) (f : Value) (n : Nat) (P : Heap → Prop) (ds : List D) (kw : List (Str × D)) (R : Heap → Value → Prop) : Prop :=
  ∀ A l s hb, Room n A l → Base w l hb s → P hb → ∀ a, VA hb a ds kw → codeAny (MM w) A (.call f a) (Post l s hb R) s
theorem CoC.fn {w : World} {f : Value} {n : Nat} {P : Heap → Prop} {ds : List D} {kw : List (Str × D)} {R : Heap → Value → Prop} (h : CoC w f n P ds kw R) : FnC w f n P ds kw R := by
  intro A l s hb hR B hP a ha E
  refine wpAny_call (codeAny_mono (h A l s hb hR B hP a ha) ?_)
  rintro r s' ⟨v, hb', rfl, x, y⟩
  exact ⟨hb', x, y⟩

/-- what is known of how a callee holds its arguments -/
def Keeps? (w : World) (P : Heap → Prop) (f : Value) : Prop := ∀ h, P h → ∃ k, Looks (MM w) h (keeperOf f) k

section
variable {c : Ctx} {ρ ρ' : Rho} {O O' : List Own} {hb hb' : Heap} {s s' : Shared} {α β : Type}

theorem callWith_gen {M : Model} {A : Around} {E : Value → Shared → Prop} {s : Shared} {f : Value} {first : List Value} {pos : Pos} {Q : Value → Shared → Prop} {args : List (Bool × Sem Value)} {kws : List (Option Str × Sem Value)}
    (h : wpAny M A (evalArgs f true args kws) (fun a s₁ => (∃ k, Looks M s₁.heap (keeperOf f) k) ∧ wpAny M A (call f (first ++ a.pos) a.kw) Q E s₁) E s) : wpAny M A (callWith pos f first args kws) Q E s := by
  unfold callWith
  refine wpAny_bind (wpAny_holding (wpAny_mono h (fun a s₁ h₁ => wpAny_bind (wpAny_standAt ?_)) fun _ _ x => x))
  obtain ⟨⟨k, L⟩, h₁⟩ := h₁
  dsimp only
  refine wpAny_bind (L.here ?_)
  have tail : ∀ {t : Sem Value}, wpAny M A t Q E s₁ → wpAny M A (t >>= fun r => holding [r] point >>= fun _ => pure r) Q E s₁ :=
    fun ht => wpAny_bind (wpAny_mono ht (fun r s₂ hr => wpAny_bind (wpAny_holding (wpAny_point (wpAny_pure hr)))) fun _ _ x => x)
  have marked (mk : Value) : wpAny M A (callMarked mk f (first ++ a.pos) a.kw) Q E s₁ := by unfold callMarked; exact Calls.wpAny_keep h₁
  cases k <;> cases (args.any (·.1) || kws.any (·.1.isNone)) <;> dsimp only <;> first
    | exact tail (marked _)
    | exact tail (wpAny_operating h₁)
    | exact tail h₁
    | (split <;> first | exact tail h₁ | exact tail (marked _))

/-! ### arguments -/
abbrev SpX (c : Ctx) (ρ : Rho) (O : List Own) (ts : List (Bool × Sem Value)) (ds : List D) : Prop := TX c ρ O (spliced ts) fun hb vs => VL hb vs ds
theorem SpX.nil : SpX c ρ O [] [] := fun _ hb S _ => Calls.spliced_nil ⟨hb, S.refl, .nil⟩
theorem SpX.cons {t : Sem Value} {ts : List (Bool × Sem Value)} {d : D} {ds : List D} (h : TX c ρ O t fun hb v => V hb v d) (hs : SpX c ρ O ts ds) : SpX c ρ O ((false, t) :: ts) (d :: ds) := by
  intro s hb S E
  refine Calls.spliced_cons (wpx S h fun v₁ s₁ hb₁ x₁ S₁ r₁ => wpx S₁ hs fun vs s₂ hb₂ x₂ S₂ r₂ => ⟨hb₂, x₁.trans S.base x₂, .cons (r₁.up x₂.le) r₂⟩)

/-- the arguments as written -/
def ArgX (c : Ctx) (ρ : Rho) (O : List Own) (args : List Expr) (kws : List Keyword) (ds : List D) (kw : List (Str × D)) : Prop :=
  ∀ f pos, TX c ρ O (evalArgs f true (backTo pos (starEach args c.env)) (backToKw pos (keywordEach kws c.env))) fun hb a => VA hb a ds kw

/-- plain arguments, each -/
inductive EL (c : Ctx) (ρ : Rho) (O : List Own) : List Expr → List D → Prop
  | nil : EL c ρ O [] []
  | cons {e es d ds} (h : EX c ρ O e d) (hs : EL c ρ O es ds) (he : ∀ env, starEach (e :: es) env = (false, eval e env) :: starEach es env := by intro _; rfl) : EL c ρ O (e :: es) (d :: ds)
theorem EL.sp {es : List Expr} {ds : List D} {pos : Pos} (h : EL c ρ O es ds) : SpX c ρ O (backTo pos (starEach es c.env)) ds := by
  induction h with
  | nil => exact SpX.nil
  | cons h hs he ih => rw [he]; exact SpX.cons h ih
theorem ArgX.none : ArgX c ρ O [] [] [] [] := fun _ _ _ hb S _ => PySem.evalArgs_none ⟨hb, S.refl, .nil, .nil⟩
theorem ArgX.plain {e : Expr} {es : List Expr} {d : D} {ds : List D} (h : EL c ρ O (e :: es) (d :: ds)) : ArgX c ρ O (e :: es) [] (d :: ds) [] := by
  intro f pos s hb S E
  have h' := h.sp (pos := pos) s hb S E
  cases h with
  | cons h₁ h₂ he =>
    rw [he] at h' ⊢
    exact Calls.evalArgs_plain (wpAny_mono h' (fun vs s₁ ⟨hb₁, x, r⟩ => ⟨hb₁, x, r, .nil⟩) fun _ _ e => e)

/-- what stands behind a star: a list or a tuple of data -/
theorem star_of {v : Value} {d : PyData} {xs : List PyData} (S : St c ρ O hb s) (hv : V hb v (.py d)) (hd : d = .list xs ∨ d = .tuple xs) (hsz : xs.length ≤ sizeLine) {E : Value → Shared → Prop} :
    StarOf (MM c.w) c.A E v (fun vs s' => ∃ hb', Ext c.l s hb s' hb' ∧ VL hb' vs (xs.map .py)) s := by
  obtain ⟨as, r⟩ := hv
  have key : ∀ {T : String} {a : Addr} {o : Obj} {vs : Array Value} {n : Nat} {bs : List Addr}, (T = "list" ∨ T = "tuple") → hb.get? a = some o → o.cls = .type T → o.data = .seq vs n → ReadsAll hb vs.toList xs bs →
      StarOf (MM c.w) c.A E (.ref a) (fun vs s' => ∃ hb', Ext c.l s hb s' hb' ∧ VL hb' vs (xs.map .py)) s := by
    intro T a o vs n bs hT ho hc hdd hr
    have D := S.base.le _ _ ho
    have hT' : s.TypeIs (.ref a) T := ⟨o, D, hc⟩
    have hl : vs.size ≤ sizeLine := by have := (VL.of_reads hr).length; simp at this; omega
    have z : wpAny (MM c.w) c.A (collect (.ref a)) (fun vs s' => ∃ hb', Ext c.l s hb s' hb' ∧ VL hb' vs (xs.map .py)) E s :=
      wpAny_collect_seq a hT D hc hdd (fun h' hk => ⟨hb, S.same ⟨h', s.toks, rfl, hk⟩, VL.of_reads hr⟩) hl
    unfold StarOf notIterableAtAll
    rcases hT with rfl | rfl
    · exact wpAny_bind (wpAny_specialOf hT' PySem.F.slot_list_iter.lookup (wpAny_pure ⟨rfl, z⟩))
    · exact wpAny_bind (wpAny_specialOf hT' PySem.F.slot_tuple_iter.lookup (wpAny_pure ⟨rfl, z⟩))
  rcases hd with rfl | rfl
  · cases r with
    | list h1 h2 h3 h4 => exact key (.inl rfl) h1 h2 h3 h4
  · cases r with
    | tuple h1 h2 h3 h4 => exact key (.inr rfl) h1 h2 h3 h4

theorem ArgX.lone {e : Expr} {p : Pos} {d : PyData} {xs : List PyData} (h : EX c ρ O e (.py d)) (hd : d = .list xs ∨ d = .tuple xs) (hsz : xs.length ≤ sizeLine := by size_fits) : ArgX c ρ O [.Starred e p] [] (xs.map .py) [] := by
  intro f pos s hb S E
  show wpAny _ _ (evalArgs f true [(true, (do let v ← eval e c.env; standAt pos; pure v))] []) _ _ s
  refine ks_lone (wpx S h fun v s₁ hb₁ x₁ S₁ r₁ => ?_)
  have := star_of S₁ r₁ hd hsz (E := E)
  unfold StarOf at this ⊢
  refine wpAny_mono this (fun b s₂ h₂ => ⟨h₂.1, wpAny_mono h₂.2 (fun vs s₃ ⟨hb₃, x₃, r₃⟩ => ⟨hb₃, x₁.trans S.base x₃, r₃, .nil⟩) fun _ _ e => e⟩) fun _ _ e => e

/-- a call: the callee, its arguments, its contract -/
theorem TX.callWith {f : Value} {args : List Expr} {kws : List Keyword} {pos : Pos} {n : Nat} {P : Heap → Prop} {ds first : List D} {fv : List Value} {kw : List (Str × D)} {R : Heap → Value → Prop}
    (ha : ArgX c ρ O args kws ds kw) (hf : FnC c.w f n P (first ++ ds) kw R) (hn : n ≤ c.n) (hP : ∀ hb, c.pers hb → Gd c.w hb → P hb) (hk : Keeps? c.w P f) (S : St c ρ O hb s) (hfv : VL hb fv first) {E : Value → Shared → Prop} :
    wpAny (MM c.w) c.A (callWith pos f fv (backTo pos (starEach args c.env)) (backToKw pos (keywordEach kws c.env))) (fun v s' => ∃ hb', Ext c.l s hb s' hb' ∧ R hb' v) E s := by
  refine callWith_gen (wpx S (ha f pos) fun a s₁ hb₁ x₁ S₁ r₁ => ?_)
  have hp := hP hb₁ S₁.pers S₁.base.gd
  obtain ⟨k, L⟩ := hk hb₁ hp
  refine ⟨⟨k, L.keeps S₁.base.le⟩, wpAny_mono (hf c.A c.l s₁ hb₁ (S₁.ok.room.less hn) S₁.base hp ⟨fv ++ a.pos, a.kw⟩ ⟨(hfv.up x₁.le).append r₁.pos, r₁.kw⟩ E) ?_ fun _ _ e => e⟩
  rintro v s₂ ⟨hb₂, x₂, r₂⟩
  exact ⟨hb₂, x₁.trans S.base x₂, r₂⟩

theorem TX.callName {f : Value} {x : Str} {p pos : Pos} {args : List Expr} {kws : List Keyword} {n : Nat} {P : Heap → Prop} {ds : List D} {kw : List (Str × D)} {R : Heap → Value → Prop}
    (hx : EX c ρ O (.Name x p) (.raw f)) (ha : ArgX c ρ O args kws ds kw) (hf : FnC c.w f n P ds kw R) (hn : n ≤ c.n) (hP : ∀ hb, c.pers hb → Gd c.w hb → P hb) (hk : Keeps? c.w P f) :
    TX c ρ O (eval (.Call (.Name x p) args kws pos) c.env) R := by
  intro s hb S E
  refine wpAny_Call_Name_kw (wpx S hx fun v s₁ hb₁ x₁ S₁ r₁ => ?_)
  subst r₁
  exact wpAny_mono (TX.callWith (first := []) (fv := []) ha hf hn hP hk S₁ .nil) (fun v s₂ ⟨hb₂, x₂, r₂⟩ => ⟨hb₂, x₁.trans S.base x₂, r₂⟩) fun _ _ e => e
end
end Mine
end

/-! ## F6 -/
section
namespace Mine

def rho : List (Str × D) → Rho → Rho
  | [], ρ => ρ
  | (n, d) :: r, ρ => rho r (put ρ n d)

def fctx (w : World) (n : Nat) (A : Around) (l : List Env) (s₀ : Shared) (hb₀ : Heap) (fd : FuncData) (L f : Addr) (P : Heap → Prop) : Ctx :=
  { w, n, A := A.deeper (callEnvC fd L f), env := callEnvC fd L f, l := callEnvC fd L f :: l, lo := l, s₀, hb₀, wn := fun _ => true, wl := true, pers := P }

theorem binds_see {kindOf : Str → Option NameKind} {hb : Heap} : ∀ {binds : List (Str × Value)} {bs : List (Str × D)} {m cm : Str → Option Value} {ρ : Rho}, KL hb binds bs →
    (∀ x ∈ bs, kindOf x.1 = some .local ∨ kindOf x.1 = some .cell) →
    (∀ x d, ρ x = some d → ∃ v, ((kindOf x = some .local ∧ m x = some v) ∨ (kindOf x = some .cell ∧ cm x = some v)) ∧ V hb v d) →
    ∀ x d, rho bs ρ x = some d → ∃ v, ((kindOf x = some .local ∧ bindL kindOf binds m x = some v) ∨ (kindOf x = some .cell ∧ bindC kindOf binds cm x = some v)) ∧ V hb v d
  | _, _, _, _, _, .nil, _, h => h
  | _, _, m, cm, ρ, .cons (n := n) (v := v) (d := d') a b, hk, h => by
    refine binds_see (ρ := put ρ n d') (m := if kindOf n = some .local then fun y => if y = n then some v else m y else m) (cm := if kindOf n = some .local then cm else fun y => if y = n then some v else cm y) b (fun x hx => hk x (List.mem_cons_of_mem _ hx)) fun x d e => ?_
    have hn := hk (n, d') (List.mem_cons_self ..)
    unfold put at e
    by_cases q : x = n
    · subst q
      rw [if_pos rfl] at e; cases e
      rcases hn with hn | hn
      · exact ⟨v, .inl ⟨hn, by rw [if_pos hn]; simp⟩, a⟩
      · exact ⟨v, .inr ⟨hn, by rw [if_neg (by rw [hn]; decide)]; simp⟩, a⟩
    · rw [if_neg q] at e
      obtain ⟨u, hu, hv⟩ := h x d e
      refine ⟨u, ?_, hv⟩
      rcases hn with hn | hn
      · rw [if_pos hn, if_pos hn]
        refine hu.imp (fun y => ⟨y.1, ?_⟩) id
        rw [if_neg q]; exact y.2
      · have hne : ¬ kindOf n = some .local := by
          have hn' : kindOf n = some .cell := hn
          rw [hn']; decide
        rw [if_neg hne]
        rw [if_neg hne]
        refine hu.imp id (fun y => ⟨y.1, ?_⟩)
        rw [if_neg q]; exact y.2

theorem rho_mem {x : Str} {d : D} : ∀ {bs : List (Str × D)} {ρ : Rho}, rho bs ρ x = some d → ρ x = some d ∨ ∃ d', (x, d') ∈ bs
  | [], _, h => .inl h
  | (n, d') :: r, ρ, h => by
    rcases rho_mem (bs := r) h with h | ⟨d'', h⟩
    · unfold put at h
      by_cases q : x = n
      · exact .inr ⟨d', q ▸ List.mem_cons_self ..⟩
      · rw [if_neg q] at h; exact .inl h
    · exact .inr ⟨d'', List.mem_cons_of_mem _ h⟩
theorem KL.mem {hb : Heap} : ∀ {binds : List (Str × Value)} {bs : List (Str × D)}, KL hb binds bs → ∀ x ∈ binds, ∃ d, (x.1, d) ∈ bs
  | _, _, .cons a b, x, hx => by
    rcases List.mem_cons.mp hx with rfl | hx
    · exact ⟨_, List.mem_cons_self ..⟩
    · obtain ⟨d, h⟩ := b.mem x hx; exact ⟨d, List.mem_cons_of_mem _ h⟩

/-- a function's own facts, of its object in the text -/
structure IsFn (f : Addr) (fd : FuncData) (body : List Stmt) : Prop where
  there : ∀ P, ∃ oc od osl, (KG P).lookup f = some ⟨oc, od, .func fd, osl⟩
  body : fd.body = .stmts body
  glob : fd.globals = mainGlobals
  bi : fd.builtins = builtinsNs
  clo : fd.closure = []
  co : fd.scope.isCoroutine = false
  gen : fd.scope.isGenerator = false
  kind : fd.scope.kind = .function
  code : ∀ P, codeIn (KG P) fd.code fd.qualname = true

def KindOk (fd : FuncData) (bs : List (Str × D)) : Prop :=
  ∀ x ∈ bs, fd.scope.names.lookup x.1 = some .local ∨ (fd.scope.names.lookup x.1 = some .cell ∧ ∀ n, ((cellsFrom n fd.scope.names []).lookup x.1).isSome = true)

theorem enter {w : World} {A : Around} {l : List Env} {s₀ s : Shared} {hb₀ hb : Heap} {n : Nat} {f : Addr} {fd : FuncData} {body : List Stmt} {a : Args} {bs : List (Str × D)} {P : Heap → Prop} {O : List Own}
    {R : Result → Shared → Prop} {K : Out → Prop}
    (F : IsFn f fd body) (hR : Room (n + 1) A l) (B₀ : Base w l hb₀ s₀) (X : Ext l s₀ hb₀ s hb) (hP : P hb) (Pup : ∀ h h', Le h h' → P h → P h')
    (hO : ∀ o ∈ O, o.Ok ∧ o.p s.heap ∧ (∀ b ∈ o.fp, b ∈ o.wr ∨ ∃ ob, hb.get? b = some ob) ∧ ∀ b ∈ o.wr, hb.get? b = none ∧ s₀.heap.get? b = none) (hOd : O.Pairwise fun x y => ∀ b ∈ x.wr, b ∉ y.wr)
    (hbind : ∀ E, wpAny (MM w) A.in1 (bindArgs fd a) (fun binds s₁ => ∃ hb₁, Ext l s hb s₁ hb₁ ∧ KL hb₁ binds bs) E s) (hkind : KindOk fd bs)
    (hbody : ∀ L, SB (fctx w n A l s₀ hb₀ fd L f P) (rho bs ρ0) O body K)
    (hfin : ∀ L out fl hb' s', K out → Done (fctx w n A l s₀ hb₀ fd L f P) out fl hb' s' → R (.ok (.ret (match fl with | .ret v => v | _ => .none))) s') :
    codeAny (MM w) A (.call (.ref f) a) R s := by
  have B := X.base B₀
  obtain ⟨oc, od, osl, hl⟩ := F.there w.params
  refine codeAny_call_function (fd := fd) (o := ⟨oc, od, .func fd, osl⟩) (by have := hR.dep; omega) (B.le _ _ (B.gd.frag _ _ hl)) rfl F.co F.gen F.body ((codeRec_of B.gd.frag (F.code _)).keeps B.le) ?_
  refine wpAny_mono (hbind _) (fun binds s₁ ⟨hb₁, x₁, r₁⟩ => ?_) fun _ _ e => e
  have B₁ := x₁.base B
  have X₁ := X.trans B₀ x₁
  rw [F.clo]
  refine wpAny_newFunctionEnv_cells F.kind (fun x hx => ?_) fun env he s₂ I => ?_
  · obtain ⟨d, hd⟩ := r₁.mem x hx
    rcases hkind _ hd with h | ⟨h, h'⟩
    · exact .inl h
    · exact .inr ⟨h, h' _⟩
  have he' : env = callEnvC fd s₁.heap.objs.size f := he
  obtain ⟨h₂, tk, rfl, hk⟩ := I.done
  have hL0 : ∀ b, s₁.heap.objs.size ≤ b → s₁.heap.get? b = none := fun b hb => by
    cases e : s₁.heap.get? b with
    | none => rfl
    | some o => exact absurd (Heap.lt_size e) (Nat.not_lt.mpr hb)
  have hnew : ∀ b, s₁.heap.objs.size ≤ b → hb₁.get? b = none ∧ s₀.heap.get? b = none := fun b hb => by
    refine ⟨?_, X₁.kp.none B₀.tab (hL0 b hb)⟩
    cases e : hb₁.get? b with
    | none => rfl
    | some o => have := B₁.le b o e; rw [hL0 b hb] at this; cases this
  have hNs : Heap.Ns h₂ s₁.heap.objs.size (bindL (callEnvC fd s₁.heap.objs.size f).kindOf binds fun _ => none) := by subst he'; exact I.toInCall.ns
  have hcellAt : ∀ nm a, (callEnvC fd s₁.heap.objs.size f).cells.lookup nm = some a → s₁.heap.objs.size < a := by subst he'; exact fun nm a h => I.above nm a (mem_of_lookup h)
  have hapart : (callEnvC fd s₁.heap.objs.size f).cells.Pairwise fun x y => x.2 ≠ y.2 := by subst he'; exact I.apart
  have hcellIs : ∀ nm a, (callEnvC fd s₁.heap.objs.size f).cells.lookup nm = some a → h₂.IsCell a (bindC (callEnvC fd s₁.heap.objs.size f).kindOf binds (fun _ => none) nm) := by subst he'; exact I.cell
  generalize hL : s₁.heap.objs.size = L at *
  have hLn := hnew L (Nat.le_refl _)
  have hLph : L ≠ PH := by
    rintro rfl; obtain ⟨ps, e⟩ := B₁.tab.obj; rw [hL0 _ (Nat.le_refl _)] at e; cases e
  have x₂ : Ext l s₁ hb₁ { s₁ with heap := h₂, toks := tk } hb₁ := .same B₁ (.of_keeps ⟨h₂, tk, rfl, hk⟩)
  have X₂ := X₁.trans B₀ x₂
  have B₂ := x₂.base B₁
  have hPup := Pup _ _ x₁.le hP
  have S : St (fctx w n A l s₀ hb₀ fd L f P) (rho bs ρ0) O hb₁ { s₁ with heap := h₂, toks := tk } := by
    refine { ok := ?_, base := ?_, env := ?_, loc := ⟨⟨_, hNs⟩, hLn.1, fun _ => hLn.2⟩, cells := ?_, cellsA := fun n n' a _ h h' => name_of_addr hapart (mem_of_lookup h') (mem_of_lookup h), own := ?_, disj := hOd, pers := hPup, ext := X₂ }
    · refine { room := hR.deeper _, kind := F.kind, glob := F.glob, bi := F.bi, lolo := fun b hb => List.mem_cons_of_mem _ hb, new := fun b hb => ?_, pup := Pup, tab₀ := B₀.tab }
      rcases List.mem_cons.mp hb with rfl | hb
      · exact .inr hLn.2
      · exact .inl hb
    · refine ⟨B₂.le, B₂.ph, fun b hb => ?_, B₂.gd, B₂.tab, fun e he => ?_⟩
      · rcases List.mem_cons.mp hb with rfl | hb
        · exact ⟨hLn.1, hLph, _, hNs⟩
        · exact B₂.fr b hb
      · rcases List.mem_cons.mp he with rfl | he
        · refine ⟨fun q => ?_, _, rfl⟩
          have hkd := F.kind
          rw [show (callEnvC fd L f).scope.kind = fd.scope.kind from rfl, hkd] at q
          cases q
        · exact B₂.fk e he
    · intro x d hx
      obtain ⟨v, hv, hv'⟩ := binds_see (kindOf := (callEnvC fd L f).kindOf) (m := fun _ => none) (cm := fun _ => none) (ρ := ρ0) r₁ (fun x hx => (hkind x hx).imp id And.left) (fun x d e => by cases e) x d hx
      refine ⟨v, ?_, hv'⟩
      rcases hv with ⟨h1, h2⟩ | ⟨h1, h2⟩
      · exact .inl ⟨h1, _, hNs, h2⟩
      · refine .inr ⟨.inl h1, ?_⟩
        have : ∃ d', (x, d') ∈ bs := by
          rcases rho_mem hx with h | h
          · cases h
          · exact h
        obtain ⟨d', hd'⟩ := this
        rcases hkind _ hd' with h | ⟨h, h'⟩
        · exact absurd (h1.symm.trans h) (by decide)
        · obtain ⟨ca, hca⟩ := Option.isSome_iff_exists.mp (h' (L + 1))
          exact ⟨ca, hca, h2 ▸ hcellIs x ca hca⟩
    · intro nm ca h
      have hlt := hcellAt nm ca h
      have hn := hnew ca (Nat.le_of_lt hlt)
      exact ⟨Nat.ne_of_gt hlt, hn.1, ⟨_, hcellIs nm ca h⟩, fun _ => hn.2⟩
    · intro o ho
      obtain ⟨h1, h2, h3, h4⟩ := hO o ho
      have hp : ∀ h', Le hb h' → (∀ b ∈ o.wr, ∀ ob, s.heap.get? b = some ob → h'.get? b = some ob) → o.p h' := fun h' k1 k2 => h1.frame _ _ h2 fun b hb ob e => by
        rcases h3 b hb with q | ⟨ob', q⟩
        · exact k2 b q ob e
        · have := B.le _ _ q; rw [e] at this; cases this; exact k1 _ _ q
      have hfl : ∀ b ∈ o.wr, b ≠ PH ∧ b ∉ fra l := fun b hb => ⟨fun q => (by
          obtain ⟨ps, e⟩ := B₀.tab.obj; rw [← q, (h4 b hb).2] at e; cases e), fun q => (by
          obtain ⟨_, _, m, o', _, _, e, _⟩ := B₀.fr b q; rw [(h4 b hb).2] at e; cases e)⟩
      have hal : ∀ b ∈ o.wr, ∃ ob, s₁.heap.get? b = some ob := fun b hb => by
        obtain ⟨ob, e, _⟩ := h1.live _ h2 b hb; exact ⟨ob, x₁.kp.keep b ob (hfl b hb).1 (hfl b hb).2 e⟩
      have hne : ∀ b ∈ o.wr, b < L := fun b hb => by obtain ⟨ob, e⟩ := hal b hb; rw [← hL]; exact Heap.lt_size e
      refine ⟨h1, hp _ (fun b ob e => B₂.le b ob (x₁.le b ob e)) (fun b hb ob e => hk b ob (x₁.kp.keep b ob (hfl b hb).1 (hfl b hb).2 e)), fun b hb => (h3 b hb).imp id fun ⟨ob, e⟩ => ⟨ob, x₁.le _ _ e⟩, fun b hb => ?_⟩
      refine ⟨x₁.off (h4 b hb).1 (let ⟨ob, e, _⟩ := h1.live _ h2 b hb; ⟨ob, e⟩), (h4 b hb).2, (hfl b hb).1, fun q => ?_, Nat.ne_of_lt (hne b hb), fun nm ca h => Nat.ne_of_gt (Nat.lt_trans (hne b hb) (hcellAt nm ca h))⟩
      rcases List.mem_cons.mp q with q | q
      · exact Nat.lt_irrefl _ (q ▸ hne b hb)
      · exact (hfl b hb).2 q
  subst he'
  refine ⟨B.gd.lim.keeps ?_, codeAny_func (wpAny_mono (hbody L _ _ S _) (fun fl s' ⟨out, hb', hK, _, hd⟩ => hfin L out fl hb' s' hK hd) fun _ _ e => e)⟩
  exact fun b o e => B₂.le b o (x₁.le b o e)

/-- a function of the text, by its body -/
theorem CoC.def {w : World} {n : Nat} {f : Addr} {fd : FuncData} {body : List Stmt} {ds : List D} {kw bs : List (Str × D)} {P : Heap → Prop} {R : Heap → Value → Prop} {K : Out → Prop}
    (F : IsFn f fd body) (hPG : ∀ h, P h → Gd w h) (Pup : ∀ h h', Le h h' → P h → P h') (hkind : KindOk fd bs)
    (hbind : ∀ A l s hb, Base w l hb s → P hb → ∀ a, VA hb a ds kw → ∀ E, wpAny (MM w) A (bindArgs fd a) (fun binds s₁ => ∃ hb₁, Ext l s hb s₁ hb₁ ∧ KL hb₁ binds bs) E s)
    (hbody : ∀ A l s₀ hb₀ L, SB (fctx w n A l s₀ hb₀ fd L f P) (rho bs ρ0) [] body K)
    (hfin : ∀ o, K o → (∃ d, o = .ret d ∧ ∀ h v, V h v d → R h v) ∨ (∃ ρ O, o = .next ρ O ∧ ∀ h, R h .none)) : CoC w (.ref f) (n + 1) P ds kw R := by
  intro A l s hb hR B hP a ha
  refine (enter F hR B (.refl B) hP Pup (O := []) (by intro o h; cases h) .nil (hbind _ _ _ _ B hP a ha) hkind (hbody A l s hb) (K := K) ?_)
  intro L out fl hb' s' hK hd
  rcases hfin out hK with ⟨d, rfl, h⟩ | ⟨ρ, O, rfl, h⟩
  · cases fl <;> first | exact hd.elim | exact ⟨_, hb', rfl, hd.2, h _ _ hd.1⟩
  · cases fl <;> first | exact hd.elim | exact ⟨_, hb', rfl, hd.ext, h _⟩
end Mine
end

/-! ## F7 -/
section
namespace Mine

/-! ### data in the heap -/
theorem V.list_inv {h : Heap} {v : Value} {xs : List PyData} (x : V h v (.py (.list xs))) :
    ∃ a o vs n, v = .ref a ∧ h.get? a = some o ∧ o.cls = .type "list" ∧ o.data = .seq vs n ∧ VL h vs.toList (xs.map .py) := by
  obtain ⟨as, r⟩ := x
  cases r with
  | list h1 h2 h3 h4 => exact ⟨_, _, _, _, rfl, h1, h2, h3, VL.of_reads h4⟩
theorem V.tuple_inv {h : Heap} {v : Value} {xs : List PyData} (x : V h v (.py (.tuple xs))) :
    ∃ a o vs n, v = .ref a ∧ h.get? a = some o ∧ o.cls = .type "tuple" ∧ o.data = .seq vs n ∧ VL h vs.toList (xs.map .py) := by
  obtain ⟨as, r⟩ := x
  cases r with
  | tuple h1 h2 h3 h4 => exact ⟨_, _, _, _, rfl, h1, h2, h3, VL.of_reads h4⟩
theorem V.int_inv {h : Heap} {v : Value} {i : Int} (x : V h v (.py (.int i))) : ∃ t, v = .int i t := by
  obtain ⟨as, r⟩ := x; cases r; exact ⟨_, rfl⟩
theorem V.str_inv {h : Heap} {v : Value} {i : Str} (x : V h v (.py (.str i))) : ∃ t, v = .str i t := by
  obtain ⟨as, r⟩ := x; cases r; exact ⟨_, rfl⟩
theorem V.bool_inv {h : Heap} {v : Value} {i : Bool} (x : V h v (.py (.bool i))) : v = .bool i := by
  obtain ⟨as, r⟩ := x; cases r; rfl
theorem V.none_inv {h : Heap} {v : Value} (x : V h v (.py .none)) : v = .none := by
  obtain ⟨as, r⟩ := x; cases r; rfl
theorem VL.get {h : Heap} : ∀ {vs : List Value} {ds : List D} {i : Nat} {d : D}, VL h vs ds → ds[i]? = some d → ∃ v, vs[i]? = some v ∧ V h v d
  | _, _, 0, _, .cons a _, e => by simp at e; subst e; exact ⟨_, rfl, a⟩
  | _, _, i + 1, _, .cons _ b, e => by simpa using b.get (by simpa using e)
theorem V.mkList {h : Heap} {a : Addr} {o : Obj} {vs : Array Value} {n : Nat} {xs : List PyData} (h1 : h.get? a = some o) (h2 : o.cls = .type "list") (h3 : o.data = .seq vs n) (h4 : VL h vs.toList (xs.map .py)) :
    V h (.ref a) (.py (.list xs)) := let ⟨as, r⟩ := h4.reads; ⟨_, .list h1 h2 h3 r⟩
theorem V.mkTuple {h : Heap} {a : Addr} {o : Obj} {vs : Array Value} {n : Nat} {xs : List PyData} (h1 : h.get? a = some o) (h2 : o.cls = .type "tuple") (h3 : o.data = .seq vs n) (h4 : VL h vs.toList (xs.map .py)) :
    V h (.ref a) (.py (.tuple xs)) := let ⟨as, r⟩ := h4.reads; ⟨_, .tuple h1 h2 h3 r⟩

section
variable {w : World} {l : List Env} {s s' : Shared} {hb : Heap}
theorem Base.keeps (B : Base w l hb s) (k : Keeps s s') : Ext l s hb s' (mx hb s.heap s'.heap) := .mx B (.of_keeps k)
theorem Base.same (B : Base w l hb s) (k : Keeps s s') : Ext l s hb s' hb := .same B (.of_keeps k)
theorem fresh_size (h : Heap) : h.get? h.objs.size = none := by
  cases e : h.get? h.objs.size with
  | none => rfl
  | some o => exact absurd (Heap.lt_size e) (Nat.lt_irrefl _)
theorem fresh_ge {h : Heap} {b : Addr} (hb : h.objs.size ≤ b) : h.get? b = none := by
  cases e : h.get? b with
  | none => rfl
  | some o => exact absurd (Heap.lt_size e) (Nat.not_lt.mpr hb)
theorem Base.newList (B : Base w l hb s) (k : Keeps s s') {a : Addr} {o : Obj} {vs : Array Value} {n : Nat} {xs : List PyData} (hn : s.heap.get? a = none) (h1 : s'.heap.get? a = some o)
    (h2 : o.cls = .type "list") (h3 : o.data = .seq vs n) (h4 : VL hb vs.toList (xs.map .py)) : ∃ hb', Ext l s hb s' hb' ∧ V hb' (.ref a) (.py (.list xs)) :=
  ⟨_, B.keeps k, .mkList (mx_new hn h1) h2 h3 (h4.up (B.keeps k).le)⟩
theorem Base.newTuple (B : Base w l hb s) (k : Keeps s s') {a : Addr} {o : Obj} {vs : Array Value} {n : Nat} {xs : List PyData} (hn : s.heap.get? a = none) (h1 : s'.heap.get? a = some o)
    (h2 : o.cls = .type "tuple") (h3 : o.data = .seq vs n) (h4 : VL hb vs.toList (xs.map .py)) : ∃ hb', Ext l s hb s' hb' ∧ V hb' (.ref a) (.py (.tuple xs)) :=
  ⟨_, B.keeps k, .mkTuple (mx_new hn h1) h2 h3 (h4.up (B.keeps k).le)⟩
end

/-! ### operators -/
theorem OpX.add_int {a b : Int} : OpX .Add (.py (.int a)) (.py (.int b)) (.py (.int (a + b))) := by
  intro c ρ O s hb v₁ v₂ S h₁ h₂ E
  obtain ⟨t, rfl⟩ := h₁.int_inv; obtain ⟨u, rfl⟩ := h₂.int_inv
  exact PyProof.Rows.add_int ⟨hb, S.tok _, V.int⟩
theorem OpX.sub_int {a b : Int} : OpX .Sub (.py (.int a)) (.py (.int b)) (.py (.int (a - b))) := by
  intro c ρ O s hb v₁ v₂ S h₁ h₂ E
  obtain ⟨t, rfl⟩ := h₁.int_inv; obtain ⟨u, rfl⟩ := h₂.int_inv
  exact PyProof.Rows.sub_int ⟨hb, S.tok _, V.int⟩
theorem OpX.mul_int {a b : Int} (hm : IntMulOk a b) : OpX .Mult (.py (.int a)) (.py (.int b)) (.py (.int (a * b))) := by
  intro c ρ O s hb v₁ v₂ S h₁ h₂ E
  obtain ⟨t, rfl⟩ := h₁.int_inv; obtain ⟨u, rfl⟩ := h₂.int_inv
  exact PyProof.Rows.mul_int ⟨hb, S.tok _, V.int⟩ hm
theorem OpX.mod_int {a b : Int} (hz : b ≠ 0) : OpX .Mod (.py (.int a)) (.py (.int b)) (.py (.int (a.fmod b))) := by
  intro c ρ O s hb v₁ v₂ S h₁ h₂ E
  obtain ⟨t, rfl⟩ := h₁.int_inv; obtain ⟨u, rfl⟩ := h₂.int_inv
  exact PyProof.Rows.mod_int' hz ⟨hb, S.tok _, V.int⟩
theorem OpX.add_bool {a : Int} {b : Bool} : OpX .Add (.py (.int a)) (.py (.bool b)) (.py (.int (a + if b then 1 else 0))) := by
  intro c ρ O s hb v₁ v₂ S h₁ h₂ E
  obtain ⟨t, rfl⟩ := h₁.int_inv; obtain rfl := h₂.bool_inv
  exact PySem.add_int_bool ⟨hb, S.tok _, V.int⟩
theorem OpX.add_str {a b : Str} (hsz : a.length + b.length ≤ sizeLine) : OpX .Add (.py (.str a)) (.py (.str b)) (.py (.str (a ++ b))) := by
  intro c ρ O s hb v₁ v₂ S h₁ h₂ E
  obtain ⟨t, rfl⟩ := h₁.str_inv; obtain ⟨u, rfl⟩ := h₂.str_inv
  exact PyProof.Rows.add_str (fun t' tk => ⟨hb, S.tok _, V.str⟩) hsz
theorem OpX.add_list {xs ys : List PyData} (hsz : xs.length + ys.length ≤ sizeLine) : OpX .Add (.py (.list xs)) (.py (.list ys)) (.py (.list (xs ++ ys))) := by
  intro c ρ O s hb v₁ v₂ S h₁ h₂ E
  obtain ⟨a, ⟨oc, od, odat, osl⟩, vs, n, rfl, g1, g2, g3, g4⟩ := h₁.list_inv
  obtain ⟨b, ⟨pc, pd, pdat, psl⟩, us, m, rfl, k1, k2, k3, k4⟩ := h₂.list_inv
  simp only at g2 g3 k2 k3
  subst g2 g3 k2 k3
  have ho := S.base.le _ _ g1
  have ho2 := S.base.le _ _ k1
  have hl1 := g4.length
  have hl2 := k4.length
  simp only [List.length_map, Array.length_toList] at hl1 hl2
  refine concat_meets ⟨_, ho, rfl⟩ ⟨_, ho2, rfl⟩ noFill_list_add seq_list_add PySem.F.slot_list_add PySem.F.entry_list_add (PySem.F.args_list_add_2 _ _) (list_addW a b vs us n m od pd osl psl (by rw [hl1, hl2]; exact hsz)) ⟨ho, ho2, ?_⟩
  refine S.base.newList (keeps_push s _ _) (fresh_size _) (Heap.get?_push_size _ rfl) rfl rfl ?_
  simpa using g4.append k4
theorem VL.replicate {h : Heap} {vs : List Value} {ds : List D} (x : VL h vs ds) : ∀ k : Nat, VL h (List.replicate k vs).flatten (List.replicate k ds).flatten
  | 0 => .nil
  | k + 1 => by simpa [List.replicate_succ] using x.append (VL.replicate x k)
theorem map_flatten_replicate {α β : Type} (f : α → β) (xs : List α) : ∀ k : Nat, (List.replicate k xs).flatten.map f = (List.replicate k (xs.map f)).flatten
  | 0 => rfl
  | k + 1 => by simp [List.replicate_succ, map_flatten_replicate f xs k]
theorem OpX.mul_list {xs : List PyData} {x : Int} (hlo : -(2 ^ 63 : Int) ≤ x) (hhi : x < 2 ^ 63) (hsz : xs.length * x.toNat ≤ 2 ^ 24) :
    OpX .Mult (.py (.list xs)) (.py (.int x)) (.py (.list (List.replicate x.toNat xs).flatten)) := by
  intro c ρ O s hb v₁ v₂ S h₁ h₂ E
  obtain ⟨l, ⟨oc, d, odat, sl⟩, vs, k, rfl, g1, g2, g3, g4⟩ := h₁.list_inv
  obtain ⟨u, rfl⟩ := h₂.int_inv
  simp only at g2 g3
  subst g2 g3
  have ho := S.base.le _ _ g1
  have hl1 := g4.length
  simp only [List.length_map, Array.length_toList] at hl1
  have hsz' : vs.size * x.toNat ≤ 2 ^ 24 := by rw [hl1]; exact hsz
  refine wpAny_binaryOp_repeat_ref (T := "list") (U := "int") (by decide) ⟨_, ho, rfl⟩ (fun s' => typeIs_int s' x u) noFill_list_mul F.fills_int_mul F.slot_int_rmul repeat_list F.slot_int_index.lookup
    (call_meets F.slot_int_rmul (typeIs_int s x u) F.entry_int_rmul (F.args_int_rmul_2 _ _) (lm_int_rmul_list_any x u l vs k d sl)
      ⟨ho, rfl, ⟨_, ho, rfl⟩, call_meets F.slot_list_mul ⟨_, ho, rfl⟩ F.entry_list_mul (F.args_list_mul_2 _ _)
        (lm_list_mul_any l vs k d sl x u (by simp [Builtin.List.listFitsIndex]; omega) (by omega) (by simp [Builtin.List.listTooLong, sizeLine]; omega))
        ⟨ho, ?_⟩⟩)
  refine S.base.newList (keeps_push s _ _) (fresh_size _) (Heap.get?_push_size _ rfl) rfl rfl ?_
  rw [listMul_foldl_if, map_flatten_replicate]
  exact g4.replicate _

/-! ### comparisons -/
theorem CmX.lt {a b : Int} : CmX .Lt (.py (.int a)) (.py (.int b)) (decide (a < b)) := by
  intro c ρ O s hb v₁ v₂ S h₁ h₂ E Q hQ
  obtain ⟨t, rfl⟩ := h₁.int_inv; obtain ⟨u, rfl⟩ := h₂.int_inv
  exact PyProof.Rows.lt_int hQ
theorem CmX.eq_int {a b : Int} : CmX .Eq (.py (.int a)) (.py (.int b)) (a == b) := by
  intro c ρ O s hb v₁ v₂ S h₁ h₂ E Q hQ
  obtain ⟨t, rfl⟩ := h₁.int_inv; obtain ⟨u, rfl⟩ := h₂.int_inv
  exact PyProof.Rows.eq_int hQ
theorem CmX.ne_int {a b : Int} : CmX .NotEq (.py (.int a)) (.py (.int b)) (a != b) := by
  intro c ρ O s hb v₁ v₂ S h₁ h₂ E Q hQ
  obtain ⟨t, rfl⟩ := h₁.int_inv; obtain ⟨u, rfl⟩ := h₂.int_inv
  exact PyProof.Rows.ne_int hQ
theorem CmX.eq_data {a b : PyData} (ha : PySem.SeqAt.shaped a = true) (hb' : PySem.SeqAt.shaped b = true) : CmX .Eq (.py a) (.py b) (PyData.eqv a b) := by
  intro c ρ O s hb v₁ v₂ S h₁ h₂ E Q hQ
  obtain ⟨as, r⟩ := h₁; obtain ⟨bs, q⟩ := h₂
  exact PyProof.Rows.eq_dataH (PyProof.Rows.Reads.keeps S.base.le r) (PyProof.Rows.Reads.keeps S.base.le q) ha hb' (by have := S.ok.room.un; omega) hQ
theorem CmX.ne_data {a b : PyData} (ha : PySem.SeqAt.shaped a = true) (hb' : PySem.SeqAt.shaped b = true) : CmX .NotEq (.py a) (.py b) (!PyData.eqv a b) := by
  intro c ρ O s hb v₁ v₂ S h₁ h₂ E Q hQ
  obtain ⟨as, r⟩ := h₁; obtain ⟨bs, q⟩ := h₂
  exact PyProof.Rows.ne_dataH (PyProof.Rows.Reads.keeps S.base.le r) (PyProof.Rows.Reads.keeps S.base.le q) ha hb' (by have := S.ok.room.un; omega) hQ


/-! ### the built-in calls -/
section
variable {w : World} {n : Nat} {P : Heap → Prop}
theorem VA.one {h : Heap} {a : Args} {d : D} (x : VA h a [d] []) : ∃ v, a = ⟨[v], []⟩ ∧ V h v d := by
  obtain ⟨pos, kw⟩ := a
  obtain ⟨h1, h2⟩ := x
  cases h2
  cases h1 with
  | cons p q => cases q; exact ⟨_, rfl, p⟩
theorem VA.two {h : Heap} {a : Args} {d e : D} (x : VA h a [d, e] []) : ∃ v u, a = ⟨[v, u], []⟩ ∧ V h v d ∧ V h u e := by
  obtain ⟨pos, kw⟩ := a
  obtain ⟨h1, h2⟩ := x
  cases h2
  cases h1 with
  | cons p q => cases q with
    | cons p' q => cases q; exact ⟨_, _, rfl, p, p'⟩
theorem VA.three {h : Heap} {a : Args} {d e f : D} (x : VA h a [d, e, f] []) : ∃ v u t, a = ⟨[v, u, t], []⟩ ∧ V h v d ∧ V h u e ∧ V h t f := by
  obtain ⟨pos, kw⟩ := a
  obtain ⟨h1, h2⟩ := x
  cases h2
  cases h1 with
  | cons p q => cases q with
    | cons p' q => cases q with
      | cons p'' q => cases q; exact ⟨_, _, _, rfl, p, p', p''⟩

theorem Keeps?.builtin {id : String} : Keeps? w P (.builtin id) := fun _ _ => ⟨_, .of_pure rfl⟩
theorem Keeps?.type {id : String} : Keeps? w P (.type id) := fun _ _ => ⟨_, .of_pure rfl⟩

theorem FnC.len_str {x : Str} (hx : x.length < 2 ^ 63) : FnC w (.builtin "len") n P [.py (.str x)] [] (fun h v => V h v (.py (.int x.length))) := by
  intro A l s hb R B hP a ha E
  obtain ⟨v, rfl, hv⟩ := ha.one
  obtain ⟨t, rfl⟩ := hv.str_inv
  exact PyProof.Rows.len_str (by omega) ⟨hb, B.same (keeps_tok s _), V.int⟩
theorem FnC.len_list {xs : List PyData} (hx : xs.length < 2 ^ 63) : FnC w (.builtin "len") n P [.py (.list xs)] [] (fun h v => V h v (.py (.int xs.length))) := by
  intro A l s hb R B hP a ha E
  obtain ⟨v, rfl, hv⟩ := ha.one
  obtain ⟨a, o, vs, n, rfl, g1, g2, g3, g4⟩ := hv.list_inv
  have hl := g4.length
  simp only [List.length_map, Array.length_toList] at hl
  refine PyProof.Rows.len_list ⟨o, B.le _ _ g1, g2, n, g3⟩ (by omega) ⟨hb, B.same (keeps_tok s _), ?_⟩
  rw [hl]; exact V.int
theorem FnC.len_tuple {xs : List PyData} (hx : xs.length < 2 ^ 63) : FnC w (.builtin "len") n P [.py (.tuple xs)] [] (fun h v => V h v (.py (.int xs.length))) := by
  intro A l s hb R B hP a ha E
  obtain ⟨v, rfl, hv⟩ := ha.one
  obtain ⟨a, o, vs, n, rfl, g1, g2, g3, g4⟩ := hv.tuple_inv
  have hl := g4.length
  simp only [List.length_map, Array.length_toList] at hl
  refine PyProof.Rows.len_tuple ⟨o, B.le _ _ g1, g2, n, g3⟩ (by omega) ⟨hb, B.same (keeps_tok s _), ?_⟩
  rw [hl]; exact V.int
theorem FnC.max2 {a b : Int} : FnC w (.builtin "max") n P [.py (.int a), .py (.int b)] [] (fun h v => V h v (.py (.int (max a b)))) := by
  intro A l s hb R B hP a ha E
  obtain ⟨v, u, rfl, hv, hu⟩ := ha.two
  obtain ⟨t, rfl⟩ := hv.int_inv; obtain ⟨t', rfl⟩ := hu.int_inv
  refine max_two_ints R.han fun h' tk hk => ⟨hb, B.same ⟨h', tk, rfl, hk⟩, ?_⟩
  split
  · rw [Int.max_eq_right (by omega)]; exact V.int
  · rw [Int.max_eq_left (by omega)]; exact V.int
theorem FnC.min2 {a b : Int} : FnC w (.builtin "min") n P [.py (.int a), .py (.int b)] [] (fun h v => V h v (.py (.int (min a b)))) := by
  intro A l s hb R B hP a ha E
  obtain ⟨v, u, rfl, hv, hu⟩ := ha.two
  obtain ⟨t, rfl⟩ := hv.int_inv; obtain ⟨t', rfl⟩ := hu.int_inv
  refine min_two_ints R.han fun h' tk hk => ⟨hb, B.same ⟨h', tk, rfl, hk⟩, ?_⟩
  split
  · rw [Int.min_eq_right (by omega)]; exact V.int
  · rw [Int.min_eq_left (by omega)]; exact V.int
theorem FnC.min3 {a b c : Int} : FnC w (.builtin "min") n P [.py (.int a), .py (.int b), .py (.int c)] [] (fun h v => V h v (.py (.int (min (min a b) c)))) := by
  intro A l s hb R B hP a ha E
  obtain ⟨v, u, x, rfl, hv, hu, hx⟩ := ha.three
  obtain ⟨t, rfl⟩ := hv.int_inv; obtain ⟨t', rfl⟩ := hu.int_inv; obtain ⟨t'', rfl⟩ := hx.int_inv
  refine min_three_ints R.han fun h' tk hk => ⟨hb, B.same ⟨h', tk, rfl, hk⟩, ?_⟩
  split <;> split
  · rw [show min (min a b) c = c from by omega]; exact V.int
  · rw [show min (min a b) c = b from by omega]; exact V.int
  · rw [show min (min a b) c = c from by omega]; exact V.int
  · rw [show min (min a b) c = a from by omega]; exact V.int
theorem FnC.int_bool {b : Bool} : FnC w (.type "int") n P [.py (.bool b)] [] (fun h v => V h v (.py (.int (if b then 1 else 0)))) := by
  intro A l s hb R B hP a ha E
  obtain ⟨v, rfl, hv⟩ := ha.one
  obtain rfl := hv.bool_inv
  exact call_int_bool ⟨hb, B.same (keeps_tok s _), V.int⟩
theorem FnC.list_list {xs : List PyData} (hx : xs.length ≤ sizeLine) : FnC w (.type "list") n P [.py (.list xs)] [] (fun h v => V h v (.py (.list xs))) := by
  intro A l s hb R B hP a ha E
  obtain ⟨v, rfl, hv⟩ := ha.one
  obtain ⟨a, o, vs, n, rfl, g1, g2, g3, g4⟩ := hv.list_inv
  have hl := g4.length
  simp only [List.length_map, Array.length_toList] at hl
  exact call_list_seq a (.inl rfl) (B.le _ _ g1) g2 g3 (fun h' c' hk hn => B.newList ⟨h', s.toks, rfl, hk⟩ (fresh_size _) hn rfl rfl g4) (by omega)
theorem FnC.list_tuple {xs : List PyData} (hx : xs.length ≤ sizeLine) : FnC w (.type "list") n P [.py (.tuple xs)] [] (fun h v => V h v (.py (.list xs))) := by
  intro A l s hb R B hP a ha E
  obtain ⟨v, rfl, hv⟩ := ha.one
  obtain ⟨a, o, vs, n, rfl, g1, g2, g3, g4⟩ := hv.tuple_inv
  have hl := g4.length
  simp only [List.length_map, Array.length_toList] at hl
  exact call_list_seq a (.inr rfl) (B.le _ _ g1) g2 g3 (fun h' c' hk hn => B.newList ⟨h', s.toks, rfl, hk⟩ (fresh_size _) hn rfl rfl g4) (by omega)
end
end Mine
end

/-! ## F8 -/
section
namespace Mine

section
variable {c : Ctx} {ρ ρ' : Rho} {O O' : List Own} {hb hb' : Heap} {s s' : Shared}

theorem sub_gen {prog : Program} {w : World} {A : Around} {E : Value → Shared → Prop} {s : Shared} {env : Env} {value slice : Expr} {pos : Pos} {T id : String} {Q : Value → Shared → Prop}
    (hl : typeLookup (.type T) "__getitem__" = pure (some (.builtin id)))
    (h : wpAny (model prog w) A (eval value env) (fun o s₁ => wpAny (model prog w) A (eval slice env) (fun i s₂ => s₂.TypeIs o T ∧ wpAny (model prog w) A (getItem o i) Q E s₂) E s₁) E s) :
    wpAny (model prog w) A (eval (.Subscript value slice pos) env) Q E s := by
  rw [eval_Subscript]
  refine wpAny_bind (wpAny_mono h (fun o s₁ h₁ => wpAny_bind (wpAny_holding (wpAny_mono h₁ (fun i s₂ h₂ => wpAny_bind (wpAny_standAt ?_)) fun _ _ x => x)))
    fun _ _ x => x)
  have fin : ∀ vs, wpAny (model prog w) A (operate vs (getItem o i)) (fun r s₃ => wpAny (model prog w) A (letTemporaryGo value o r >>= fun _ => pure r) Q E s₃) E s₂ := fun vs =>
    wpAny_operating (wpAny_mono h₂.2 (fun r s₃ h₃ => wpAny_bind (wpAny_letTemporaryGo (wpAny_pure h₃))) fun _ _ x => x)
  refine wpAny_bind ?_
  rw [getitemInPython_of_ne h₂.1.not_modules]
  refine wpAny_bind (wpAny_specialOf h₂.1 hl ?_)
  refine wpAny_pure (wpAny_bind ?_)
  unfold subscripted
  split
  · exact fin _
  · rename_i heq; cases heq
  · exact fin _

/-- an item -/
def GiX (T : String) (d₁ d₂ d : D) : Prop := ∀ (c : Ctx) (ρ : Rho) (O : List Own) (s : Shared) (hb : Heap) (v₁ v₂ : Value), St c ρ O hb s → V hb v₁ d₁ → V hb v₂ d₂ →
  s.TypeIs v₁ T ∧ ∀ E, wpAny (MM c.w) c.A (getItem v₁ v₂) (fun v s' => ∃ hb', Ext c.l s hb s' hb' ∧ V hb' v d) E s
theorem EX.sub {T id : String} {value slice : Expr} {pos : Pos} {d₁ d₂ d : D} (h₁ : EX c ρ O value d₁) (h₂ : EX c ρ O slice d₂) (h : GiX T d₁ d₂ d)
    (hl : typeLookup (.type T) "__getitem__" = pure (some (.builtin id))) : EX c ρ O (.Subscript value slice pos) d := by
  intro s hb S E
  refine sub_gen hl (wpx S h₁ fun v₁ s₁ hb₁ x₁ S₁ r₁ => wpx S₁ h₂ fun v₂ s₂ hb₂ x₂ S₂ r₂ => ?_)
  obtain ⟨hT, hg⟩ := h _ _ _ _ _ _ _ S₂ (r₁.up x₂.le) r₂
  exact ⟨hT, wpAny_mono (hg E) (fun v s₃ ⟨hb₃, x₃, r₃⟩ => ⟨hb₃, (x₁.trans S.base x₂).trans S.base x₃, r₃⟩) fun _ _ e => e⟩

theorem GiX.list {xs : List PyData} {k : Int} {d : PyData} (h0 : 0 ≤ k) (h1 : k < 2 ^ 63) (h : xs[k.toNat]? = some d) : GiX "list" (.py (.list xs)) (.py (.int k)) (.py d) := by
  intro c ρ O s hb v₁ v₂ S r₁ r₂
  obtain ⟨a, o, vs, n, rfl, g1, g2, g3, g4⟩ := r₁.list_inv
  obtain ⟨t, rfl⟩ := r₂.int_inv
  obtain ⟨v, hv, rv⟩ := g4.get (d := .py d) (i := k.toNat) (by simp [h])
  refine ⟨⟨o, S.base.le _ _ g1, g2⟩, fun E => wpAny_getItem_list ⟨o, S.base.le _ _ g1, g2, n, g3⟩ h0 h1 (x := v) (by simpa using hv) ⟨hb, S.refl, rv⟩⟩
theorem GiX.list_last {xs : List PyData} {d : PyData} (hx : xs.length < 2 ^ 62) (h : xs.getLast? = some d) : GiX "list" (.py (.list xs)) (.py (.int (-1))) (.py d) := by
  intro c ρ O s hb v₁ v₂ S r₁ r₂
  obtain ⟨a, o, vs, n, rfl, g1, g2, g3, g4⟩ := r₁.list_inv
  obtain ⟨t, rfl⟩ := r₂.int_inv
  have hl := g4.length
  simp only [List.length_map, Array.length_toList] at hl
  have hne : xs ≠ [] := by rintro rfl; cases h
  have hpos : 0 < xs.length := List.length_pos_iff.mpr hne
  rw [List.getLast?_eq_getElem?] at h
  obtain ⟨v, hv, rv⟩ := g4.get (d := .py d) (i := xs.length - 1) (by simp [h])
  refine ⟨⟨o, S.base.le _ _ g1, g2⟩, fun E => wpAny_getItem_list_neg ⟨o, S.base.le _ _ g1, g2, n, g3⟩ (by omega) (by omega) (by omega) (x := v) ?_ ⟨hb, S.refl, rv⟩⟩
  have e : ((-1 : Int) + (vs.size : Int)).toNat = xs.length - 1 := by omega
  rw [e]; simpa using hv
theorem GiX.tuple {xs : List PyData} {k : Int} {d : PyData} (h0 : 0 ≤ k) (h1 : k < 2 ^ 63) (h : xs[k.toNat]? = some d) : GiX "tuple" (.py (.tuple xs)) (.py (.int k)) (.py d) := by
  intro c ρ O s hb v₁ v₂ S r₁ r₂
  obtain ⟨a, o, vs, n, rfl, g1, g2, g3, g4⟩ := r₁.tuple_inv
  obtain ⟨t, rfl⟩ := r₂.int_inv
  have hl := g4.length
  simp only [List.length_map, Array.length_toList] at hl
  obtain ⟨v, hv, rv⟩ := g4.get (d := .py d) (i := k.toNat) (by simp [h])
  have hlt : k.toNat < vs.size := by
    have := (List.getElem?_eq_some_iff.mp h).1; omega
  refine ⟨⟨o, S.base.le _ _ g1, g2⟩, fun E => PyProof.Rows.getItem_tuple (j := k.toNat) ⟨o, S.base.le _ _ g1, g2, n, g3⟩ (by omega) h1 ?_ (x := v) (by simpa using hv) ⟨hb, S.refl, rv⟩⟩
  unfold seqIndex?
  simp only [show ¬ k < 0 by omega, if_false]
  rw [if_pos (by simp; omega)]
theorem GiX.str {x : Str} {k : Int} {ch : Nat} (h0 : 0 ≤ k) (h1 : k < 2 ^ 63) (h : x.cps[k.toNat]? = some ch) : GiX "str" (.py (.str x)) (.py (.int k)) (.py (.str ⟨#[ch]⟩)) := by
  intro c ρ O s hb v₁ v₂ S r₁ r₂
  obtain ⟨t, rfl⟩ := r₁.str_inv
  obtain ⟨u, rfl⟩ := r₂.int_inv
  refine ⟨typeIs_str _ _ _, fun E => PyProof.Rows.getItem_str (by simp; omega) ?_ ⟨hb, S.tok _, V.str⟩⟩
  have hlt : k.toNat < x.cps.size := (Array.getElem?_eq_some_iff.mp h).1
  unfold seqIndex?
  simp only [show ¬ k < 0 by omega, if_false]
  have hx : x.length = x.cps.size := rfl
  rw [if_pos (by simp; omega)]
  exact h

/-- a part of a slice: nothing, or a number -/
def PX (c : Ctx) (ρ : Rho) (O : List Own) (x : Option Expr) (r : Option Int) : Prop := TX c ρ O (evalPart x c.env) fun _ v => ∃ t, v = partValue (r.map fun i => (i, t))
theorem PX.none : PX c ρ O none none := fun _ hb S _ => by rw [evalPart_none]; exact wpAny_pure ⟨hb, S.refl, 0, rfl⟩
theorem PX.some {e : Expr} {i : Int} (h : EX c ρ O e (.py (.int i))) : PX c ρ O (some e) (some i) := by
  intro s hb S E
  rw [evalPart_some]
  refine wpx S h fun v s₁ hb₁ x₁ S₁ r₁ => ?_
  obtain ⟨t, rfl⟩ := r₁.int_inv
  exact ⟨hb₁, x₁, t, rfl⟩
theorem isPart_of {r : Option Int} {t : Tok} : IsPart (partValue (r.map fun i => (i, t))) r := by
  cases r with
  | none => exact .none
  | some i => exact .int _ _

/-- a slice is laid, then the value -/
theorem EX.slice {T id : String} {value : Expr} {lo hi : Option Expr} {p pos : Pos} {d d' : D} {l u : Option Int} (h : EX c ρ O value d) (hl : PX c ρ O lo l) (hu : PX c ρ O hi u)
    (hg : typeLookup (.type T) "__getitem__" = pure (some (.builtin id)))
    (H : ∀ s hb v sl t t', St c ρ O hb s → V hb v d → s.heap.IsSlice sl (l.map fun i => (i, t)) (u.map fun i => (i, t')) Option.none → s.TypeIs v T ∧
      ∀ E, wpAny (MM c.w) c.A (getItem v (.ref sl)) (fun v s' => ∃ hb', Ext c.l s hb s' hb' ∧ V hb' v d') E s) :
    EX c ρ O (.Subscript value (.Slice lo hi Option.none p) pos) d' := by
  intro s hb S E
  refine sub_gen hg (wpx S h fun v₁ s₁ hb₁ x₁ S₁ r₁ => wpAny_Slice (wpx S₁ hl fun vl s₂ hb₂ x₂ S₂ r₂ => wpx S₂ hu fun vu s₃ hb₃ x₃ S₃ r₃ => ?_))
  rw [evalPart_none]
  refine wpAny_pure ?_
  obtain ⟨t, rfl⟩ := r₂
  obtain ⟨t', rfl⟩ := r₃
  have x₄ := S₃.same (keeps_push s₃ { cls := .type "slice", data := .fields #[partValue (l.map fun i => (i, t)), partValue (u.map fun i => (i, t')), .none] } s₃.toks)
  have S₄ := S₃.step x₄
  obtain ⟨hT, hw⟩ := H _ hb₃ v₁ s₃.heap.objs.size t t' S₄ ((r₁.up x₂.le).up x₃.le) ⟨_, Heap.get?_push_size _ rfl, rfl, rfl⟩
  refine ⟨hT, wpAny_mono (hw E) (fun v s₅ ⟨hb₅, x₅, r₅⟩ => ⟨hb₅, ?_, r₅⟩) fun _ _ e => e⟩
  exact (((x₁.trans S.base x₂).trans S.base x₃).trans S.base x₄).trans S.base x₅

theorem EX.slice_str {value : Expr} {lo hi : Option Expr} {p pos : Pos} {x : Str} {l u : Option Int} (h : EX c ρ O value (.py (.str x))) (hl : PX c ρ O lo l) (hu : PX c ρ O hi u) (hsz : x.length ≤ sizeLine := by size_fits) :
    EX c ρ O (.Subscript value (.Slice lo hi Option.none p) pos) (.py (.str (Txt.slice x l u))) := by
  refine EX.slice h hl hu PySem.F.slot_str_getitem.lookup fun s hb v sl t t' S r hs => ?_
  obtain ⟨tk, rfl⟩ := r.str_inv
  refine ⟨typeIs_str _ _ _, fun E => wpAny_getItem_str_slice hs rfl ?_⟩
  cases l <;> cases u <;> exact post_val_or_str ⟨Nat.le_trans (Txt.slice_le x _ _) hsz, fun t' k => ⟨hb, S.tok _, V.str⟩⟩

/-- a cut of a list -/
def cut {α : Type} (xs : List α) (lo hi : Option Int) : List α := (xs.drop (lo.elim 0 (clipAt xs.length))).take (hi.elim xs.length (clipAt xs.length) - lo.elim 0 (clipAt xs.length))
theorem cut_map {α β : Type} (f : α → β) (xs : List α) (lo hi : Option Int) : (cut xs lo hi).map f = cut (xs.map f) lo hi := by
  simp [cut, List.map_take, List.map_drop]
theorem VL.drop {h : Heap} : ∀ {vs ds}, VL h vs ds → ∀ k : Nat, VL h (vs.drop k) (ds.drop k)
  | _, _, x, 0 => x
  | _, _, .nil, _ + 1 => .nil
  | _, _, .cons _ b, k + 1 => b.drop k
theorem VL.take {h : Heap} : ∀ {vs ds}, VL h vs ds → ∀ k : Nat, VL h (vs.take k) (ds.take k)
  | _, _, _, 0 => by simpa using VL.nil
  | _, _, .nil, _ + 1 => .nil
  | _, _, .cons a b, k + 1 => .cons a (b.take k)
theorem VL.cut {h : Heap} {vs ds} (x : VL h vs ds) (lo hi : Option Int) : VL h (cut vs lo hi) (cut ds lo hi) := by
  unfold Mine.cut
  rw [x.length]
  exact (x.drop _).take _
theorem EX.slice_list {value : Expr} {lo hi : Option Expr} {p pos : Pos} {xs : List PyData} {l u : Option Int} (h : EX c ρ O value (.py (.list xs))) (hl : PX c ρ O lo l) (hu : PX c ρ O hi u) (hsz : xs.length ≤ sizeLine := by size_fits) :
    EX c ρ O (.Subscript value (.Slice lo hi Option.none p) pos) (.py (.list (cut xs l u))) := by
  refine EX.slice h hl hu PySem.F.slot_list_getitem.lookup fun s hb v sl t t' S r hs => ?_
  obtain ⟨a, o, vs, n, rfl, g1, g2, g3, g4⟩ := r.list_inv
  have hln := g4.length
  simp only [List.length_map, Array.length_toList] at hln
  refine ⟨⟨o, S.base.le _ _ g1, g2⟩, fun E => wpAny_getItem_list_slice ⟨o, S.base.le _ _ g1, g2, n, g3⟩ hs isPart_of isPart_of .none (by simp) ?_ (by omega)⟩
  refine S.base.newList (keeps_push s _ _) (fresh_size _) (Heap.get?_push_size _ rfl) rfl rfl ?_
  rw [slicePick_plain, cut_map]
  have := g4.cut l u
  unfold Mine.cut at this ⊢
  simpa using this
theorem EX.slice_tuple {value : Expr} {e : Expr} {p pos : Pos} {xs : List PyData} {a : Nat} (h : EX c ρ O value (.py (.tuple xs))) (hl : EX c ρ O e (.py (.int a))) (h1 : 1 ≤ a) (ha : a ≤ xs.length) (hsz : xs.length ≤ sizeLine := by size_fits) :
    EX c ρ O (.Subscript value (.Slice (some e) Option.none Option.none p) pos) (.py (.tuple (xs.drop a))) := by
  refine EX.slice h (PX.some hl) PX.none PySem.F.slot_tuple_getitem.lookup fun s hb v sl t t' S r hs => ?_
  obtain ⟨ad, o, vs, n, rfl, g1, g2, g3, g4⟩ := r.tuple_inv
  have hln := g4.length
  simp only [List.length_map, Array.length_toList] at hln
  refine ⟨⟨o, S.base.le _ _ g1, g2⟩, fun E => getItem_tuple_from (a := a) (u := t) ⟨o, S.base.le _ _ g1, g2, n, g3⟩ hs h1 (by omega) ?_ (by omega)⟩
  refine S.base.newTuple (keeps_push s _ _) (fresh_size _) (Heap.get?_push_size _ rfl) rfl rfl ?_
  simpa using g4.drop a
end
end Mine
end

/-! ## G1 -/
section
namespace Mine

def fd_26 : FuncData := { name := (PySem.Str.ofString "find_ngrams"), qualname := (PySem.Str.ofString "find_ngrams"), params := dArgs d_find_ngrams, body := .stmts (dBody d_find_ngrams), scope := dScope d_find_ngrams, globals := 3, closure := [], defaults := .none, kwdefaults := .none, doc := .none, pyModule := (.str (PySem.Str.ofString "textdistance.utils") 194), annotations := none, code := (.ref 25), closureTuple := .none, builtins := 0 }
theorem isFn_26 : IsFn 26 fd_26 (dBody d_find_ngrams) where
  there := fun _ => ⟨_, _, _, rfl⟩
  body := rfl
  glob := rfl
  bi := rfl
  clo := rfl
  co := by rfl
  gen := by rfl
  kind := by rfl
  code := fun _ => by rfl
def fd_55 : FuncData := { name := (PySem.Str.ofString "maximum"), qualname := (PySem.Str.ofString "Base.maximum"), params := dArgs d_maximum, body := .stmts (dBody d_maximum), scope := dScope d_maximum, globals := 3, closure := [], defaults := .none, kwdefaults := .none, doc := .none, pyModule := (.str (PySem.Str.ofString "textdistance.algorithms.base") 202), annotations := (some 58), code := (.ref 54), closureTuple := .none, builtins := 0 }
theorem isFn_55 : IsFn 55 fd_55 (dBody d_maximum) where
  there := fun _ => ⟨_, _, _, rfl⟩
  body := rfl
  glob := rfl
  bi := rfl
  clo := rfl
  co := by rfl
  gen := by rfl
  kind := by rfl
  code := fun _ => by rfl
def fd_65 : FuncData := { name := (PySem.Str.ofString "distance"), qualname := (PySem.Str.ofString "Base.distance"), params := dArgs d_distance, body := .stmts (dBody d_distance), scope := dScope d_distance, globals := 3, closure := [], defaults := .none, kwdefaults := .none, doc := .none, pyModule := (.str (PySem.Str.ofString "textdistance.algorithms.base") 202), annotations := none, code := (.ref 64), closureTuple := .none, builtins := 0 }
theorem isFn_65 : IsFn 65 fd_65 (dBody d_distance) where
  there := fun _ => ⟨_, _, _, rfl⟩
  body := rfl
  glob := rfl
  bi := rfl
  clo := rfl
  co := by rfl
  gen := by rfl
  kind := by rfl
  code := fun _ => by rfl
def fd_93 : FuncData := { name := (PySem.Str.ofString "quick_answer"), qualname := (PySem.Str.ofString "Base.quick_answer"), params := dArgs d_quick_answer, body := .stmts (dBody d_quick_answer), scope := dScope d_quick_answer, globals := 3, closure := [], defaults := .none, kwdefaults := .none, doc := .none, pyModule := (.str (PySem.Str.ofString "textdistance.algorithms.base") 202), annotations := none, code := (.ref 92), closureTuple := .none, builtins := 0 }
theorem isFn_93 : IsFn 93 fd_93 (dBody d_quick_answer) where
  there := fun _ => ⟨_, _, _, rfl⟩
  body := rfl
  glob := rfl
  bi := rfl
  clo := rfl
  co := by rfl
  gen := by rfl
  kind := by rfl
  code := fun _ => by rfl
def fd_100 : FuncData := { name := (PySem.Str.ofString "_ident"), qualname := (PySem.Str.ofString "Base._ident"), params := dArgs d_ident, body := .stmts (dBody d_ident), scope := dScope d_ident, globals := 3, closure := [], defaults := .none, kwdefaults := .none, doc := .none, pyModule := (.str (PySem.Str.ofString "textdistance.algorithms.base") 202), annotations := (some 103), code := (.ref 99), closureTuple := .none, builtins := 0 }
theorem isFn_100 : IsFn 100 fd_100 (dBody d_ident) where
  there := fun _ => ⟨_, _, _, rfl⟩
  body := rfl
  glob := rfl
  bi := rfl
  clo := rfl
  co := by rfl
  gen := by rfl
  kind := by rfl
  code := fun _ => by rfl
def fd_108 : FuncData := { name := (PySem.Str.ofString "_get_sequences"), qualname := (PySem.Str.ofString "Base._get_sequences"), params := dArgs d_get_sequences, body := .stmts (dBody d_get_sequences), scope := dScope d_get_sequences, globals := 3, closure := [], defaults := .none, kwdefaults := .none, doc := .none, pyModule := (.str (PySem.Str.ofString "textdistance.algorithms.base") 202), annotations := none, code := (.ref 107), closureTuple := .none, builtins := 0 }
theorem isFn_108 : IsFn 108 fd_108 (dBody d_get_sequences) where
  there := fun _ => ⟨_, _, _, rfl⟩
  body := rfl
  glob := rfl
  bi := rfl
  clo := rfl
  co := by rfl
  gen := by rfl
  kind := by rfl
  code := fun _ => by rfl
def fd_165 : FuncData := { name := (PySem.Str.ofString "__init__"), qualname := (PySem.Str.ofString "Hamming.__init__"), params := dArgs d_ham_init, body := .stmts (dBody d_ham_init), scope := dScope d_ham_init, globals := 3, closure := [], defaults := (.ref 158), kwdefaults := .none, doc := .none, pyModule := (.str (PySem.Str.ofString "textdistance.algorithms.edit_based") 370), annotations := none, code := (.ref 164), closureTuple := .none, builtins := 0 }
theorem isFn_165 : IsFn 165 fd_165 (dBody d_ham_init) where
  there := fun _ => ⟨_, _, _, rfl⟩
  body := rfl
  glob := rfl
  bi := rfl
  clo := rfl
  co := by rfl
  gen := by rfl
  kind := by rfl
  code := fun _ => by rfl
def fd_170 : FuncData := { name := (PySem.Str.ofString "__call__"), qualname := (PySem.Str.ofString "Hamming.__call__"), params := dArgs d_ham_call, body := .stmts (dBody d_ham_call), scope := dScope d_ham_call, globals := 3, closure := [], defaults := .none, kwdefaults := .none, doc := .none, pyModule := (.str (PySem.Str.ofString "textdistance.algorithms.edit_based") 370), annotations := none, code := (.ref 169), closureTuple := .none, builtins := 0 }
theorem isFn_170 : IsFn 170 fd_170 (dBody d_ham_call) where
  there := fun _ => ⟨_, _, _, rfl⟩
  body := rfl
  glob := rfl
  bi := rfl
  clo := rfl
  co := by rfl
  gen := by rfl
  kind := by rfl
  code := fun _ => by rfl
def fd_190 : FuncData := { name := (PySem.Str.ofString "__init__"), qualname := (PySem.Str.ofString "Levenshtein.__init__"), params := dArgs d_lev_init, body := .stmts (dBody d_lev_init), scope := dScope d_lev_init, globals := 3, closure := [], defaults := (.ref 183), kwdefaults := .none, doc := .none, pyModule := (.str (PySem.Str.ofString "textdistance.algorithms.edit_based") 370), annotations := none, code := (.ref 189), closureTuple := .none, builtins := 0 }
theorem isFn_190 : IsFn 190 fd_190 (dBody d_lev_init) where
  there := fun _ => ⟨_, _, _, rfl⟩
  body := rfl
  glob := rfl
  bi := rfl
  clo := rfl
  co := by rfl
  gen := by rfl
  kind := by rfl
  code := fun _ => by rfl
def fd_204 : FuncData := { name := (PySem.Str.ofString "_cycled"), qualname := (PySem.Str.ofString "Levenshtein._cycled"), params := dArgs d_lev_cycled, body := .stmts (dBody d_lev_cycled), scope := dScope d_lev_cycled, globals := 3, closure := [], defaults := .none, kwdefaults := .none, doc := .none, pyModule := (.str (PySem.Str.ofString "textdistance.algorithms.edit_based") 370), annotations := none, code := (.ref 203), closureTuple := .none, builtins := 0 }
theorem isFn_204 : IsFn 204 fd_204 (dBody d_lev_cycled) where
  there := fun _ => ⟨_, _, _, rfl⟩
  body := rfl
  glob := rfl
  bi := rfl
  clo := rfl
  co := by rfl
  gen := by rfl
  kind := by rfl
  code := fun _ => by rfl
def fd_211 : FuncData := { name := (PySem.Str.ofString "__call__"), qualname := (PySem.Str.ofString "Levenshtein.__call__"), params := dArgs d_lev_call, body := .stmts (dBody d_lev_call), scope := dScope d_lev_call, globals := 3, closure := [], defaults := .none, kwdefaults := .none, doc := .none, pyModule := (.str (PySem.Str.ofString "textdistance.algorithms.edit_based") 370), annotations := none, code := (.ref 210), closureTuple := .none, builtins := 0 }
theorem isFn_211 : IsFn 211 fd_211 (dBody d_lev_call) where
  there := fun _ => ⟨_, _, _, rfl⟩
  body := rfl
  glob := rfl
  bi := rfl
  clo := rfl
  co := by rfl
  gen := by rfl
  kind := by rfl
  code := fun _ => by rfl
def fd_231 : FuncData := { name := (PySem.Str.ofString "__init__"), qualname := (PySem.Str.ofString "DamerauLevenshtein.__init__"), params := dArgs d_dam_init, body := .stmts (dBody d_dam_init), scope := dScope d_dam_init, globals := 3, closure := [], defaults := (.ref 224), kwdefaults := .none, doc := .none, pyModule := (.str (PySem.Str.ofString "textdistance.algorithms.edit_based") 370), annotations := none, code := (.ref 230), closureTuple := .none, builtins := 0 }
theorem isFn_231 : IsFn 231 fd_231 (dBody d_dam_init) where
  there := fun _ => ⟨_, _, _, rfl⟩
  body := rfl
  glob := rfl
  bi := rfl
  clo := rfl
  co := by rfl
  gen := by rfl
  kind := by rfl
  code := fun _ => by rfl
def fd_245 : FuncData := { name := (PySem.Str.ofString "_pure_python_restricted"), qualname := (PySem.Str.ofString "DamerauLevenshtein._pure_python_restricted"), params := dArgs d_dam_restricted, body := .stmts (dBody d_dam_restricted), scope := dScope d_dam_restricted, globals := 3, closure := [], defaults := .none, kwdefaults := .none, doc := .none, pyModule := (.str (PySem.Str.ofString "textdistance.algorithms.edit_based") 370), annotations := none, code := (.ref 244), closureTuple := .none, builtins := 0 }
theorem isFn_245 : IsFn 245 fd_245 (dBody d_dam_restricted) where
  there := fun _ => ⟨_, _, _, rfl⟩
  body := rfl
  glob := rfl
  bi := rfl
  clo := rfl
  co := by rfl
  gen := by rfl
  kind := by rfl
  code := fun _ => by rfl
def fd_252 : FuncData := { name := (PySem.Str.ofString "__call__"), qualname := (PySem.Str.ofString "DamerauLevenshtein.__call__"), params := dArgs d_dam_call, body := .stmts (dBody d_dam_call), scope := dScope d_dam_call, globals := 3, closure := [], defaults := .none, kwdefaults := .none, doc := .none, pyModule := (.str (PySem.Str.ofString "textdistance.algorithms.edit_based") 370), annotations := none, code := (.ref 251), closureTuple := .none, builtins := 0 }
theorem isFn_252 : IsFn 252 fd_252 (dBody d_dam_call) where
  there := fun _ => ⟨_, _, _, rfl⟩
  body := rfl
  glob := rfl
  bi := rfl
  clo := rfl
  co := by rfl
  gen := by rfl
  kind := by rfl
  code := fun _ => by rfl
def fd_264 : FuncData := { name := (PySem.Str.ofString "_law_at"), qualname := (PySem.Str.ofString "_law_at"), params := dArgs d_law_at, body := .stmts (dBody d_law_at), scope := dScope d_law_at, globals := 3, closure := [], defaults := .none, kwdefaults := .none, doc := .none, pyModule := (.str (PySem.Str.ofString "law_eu0042_01") 557), annotations := none, code := (.ref 263), closureTuple := .none, builtins := 0 }
theorem isFn_264 : IsFn 264 fd_264 (dBody d_law_at) where
  there := fun _ => ⟨_, _, _, rfl⟩
  body := rfl
  glob := rfl
  bi := rfl
  clo := rfl
  co := by rfl
  gen := by rfl
  kind := by rfl
  code := fun _ => by rfl
def fd_269 : FuncData := { name := (PySem.Str.ofString "_law_word"), qualname := (PySem.Str.ofString "_law_word"), params := dArgs d_law_word, body := .stmts (dBody d_law_word), scope := dScope d_law_word, globals := 3, closure := [], defaults := .none, kwdefaults := .none, doc := .none, pyModule := (.str (PySem.Str.ofString "law_eu0042_01") 557), annotations := none, code := (.ref 268), closureTuple := .none, builtins := 0 }
theorem isFn_269 : IsFn 269 fd_269 (dBody d_law_word) where
  there := fun _ => ⟨_, _, _, rfl⟩
  body := rfl
  glob := rfl
  bi := rfl
  clo := rfl
  co := by rfl
  gen := by rfl
  kind := by rfl
  code := fun _ => by rfl
def fd_274 : FuncData := { name := (PySem.Str.ofString "_law_least"), qualname := (PySem.Str.ofString "_law_least"), params := dArgs d_law_least, body := .stmts (dBody d_law_least), scope := dScope d_law_least, globals := 3, closure := [], defaults := .none, kwdefaults := .none, doc := .none, pyModule := (.str (PySem.Str.ofString "law_eu0042_01") 557), annotations := none, code := (.ref 273), closureTuple := .none, builtins := 0 }
theorem isFn_274 : IsFn 274 fd_274 (dBody d_law_least) where
  there := fun _ => ⟨_, _, _, rfl⟩
  body := rfl
  glob := rfl
  bi := rfl
  clo := rfl
  co := by rfl
  gen := by rfl
  kind := by rfl
  code := fun _ => by rfl
def fd_279 : FuncData := { name := (PySem.Str.ofString "law"), qualname := (PySem.Str.ofString "law"), params := dArgs d_law, body := .stmts (dBody d_law), scope := dScope d_law, globals := 3, closure := [], defaults := .none, kwdefaults := .none, doc := .none, pyModule := (.str (PySem.Str.ofString "law_eu0042_01") 557), annotations := none, code := (.ref 278), closureTuple := .none, builtins := 0 }
theorem isFn_279 : IsFn 279 fd_279 (dBody d_law) where
  there := fun _ => ⟨_, _, _, rfl⟩
  body := rfl
  glob := rfl
  bi := rfl
  clo := rfl
  co := by rfl
  gen := by rfl
  kind := by rfl
  code := fun _ => by rfl
end Mine
end

/-! ## F9 -/
section
namespace Mine

/-! ### iterators -/
structure ItOk (w : World) (I : Value) (n : Nat) (hbI : Heap) (W : Nat → Own) (R : Nat → Heap → Value → Prop) : Prop where
  step : ∀ c : Ctx, c.w = w → ∀ i s hb ρ O, i < n → Le hbI hb → St c ρ (W i :: O) hb s → ∀ E, wpAny (MM w) c.A (pyNext I) (fun r s' => ∃ v hb', r = some v ∧ Le hb hb' ∧ St c ρ (W (i + 1) :: O) hb' s' ∧ R i hb' v) E s
  done : ∀ c : Ctx, c.w = w → ∀ s hb ρ O, Le hbI hb → St c ρ (W n :: O) hb s → ∀ E, wpAny (MM w) c.A (pyNext I) (fun r s' => ∃ hb', r = none ∧ Le hb hb' ∧ St c ρ O hb' s') E s
  self : ∀ c : Ctx, c.w = w → ∀ i s hb ρ O, St c ρ (W i :: O) hb s → ∀ E Q, Q I s → wpAny (MM w) c.A (pyIter I) Q E s

/-- what is iterated: written, and turned to an iterator -/
def IX (c : Ctx) (ρ : Rho) (O : List Own) (t : Sem Value) (n : Nat) (R : Nat → Heap → Value → Prop) : Prop :=
  ∀ s hb, St c ρ O hb s → ∀ E, wpAny (MM c.w) c.A t (fun x s₁ => wpAny (MM c.w) c.A (pyIter x) (fun it s₂ => ∃ hb' W, Ext c.l s hb s₂ hb' ∧ ItOk c.w it n hb' W R ∧
    (∀ i, (W i).Ok) ∧ (W 0).p s₂.heap ∧ (∀ b ∈ (W 0).fp, b ∈ (W 0).wr ∨ ∃ ob, hb'.get? b = some ob) ∧ ∀ b ∈ (W 0).wr, s.heap.get? b = none ∧ hb'.get? b = none) E s₁) E s

def ownW (wr fp : List Addr) (S : Nat → Heap → Prop) (i : Nat) : Own := ⟨wr, fp, S i⟩

theorem ItOk.of_walks {w : World} {I : Addr} {n : Nat} {hbI : Heap} {fp wr : List Addr} {P : Nat → Value → Prop} {S : Nat → Heap → Prop} {R : Nat → Heap → Value → Prop}
    (W : ∀ A : Around, A.handled = none → Walks PW w A I fp wr n P S) (hR : ∀ i v hb, i < n → Le hbI hb → P i v → R i hb v)
    (hlive : ∀ i h, S i h → ∀ b ∈ wr, ∃ ob, h.get? b = some ob ∧ ob.cls ≠ .type "code") : ItOk w (.ref I) n hbI (ownW wr fp S) R := by
  have W0 := W {} rfl
  have hok : ∀ i, (ownW wr fp S i).Ok := fun i => ⟨W0.sub, fun h h' hp k => W0.frame i h h' hp k, fun h hp b hb => hlive i h hp b hb⟩
  refine ⟨fun c hc i s hb ρ O hi hle S₁ E => ?_, fun c hc s hb ρ O hle S₁ E => ?_, fun c hc i s hb ρ O S₁ E Q hQ => ?_⟩
  · obtain ⟨k1, k2, k3, k4⟩ := S₁.own _ (List.mem_cons_self ..)
    refine (W c.A S₁.ok.room.han).item i s _ E hi k2 fun v h' tk hP hS hk => ⟨v, hb, rfl, fun _ _ e => e, ?_, hR i v hb hi hle hP⟩
    exact S₁.write_own (o₂ := ownW wr fp S (i + 1)) _ hk rfl gid (hok _) hS (fun b hb => hb) k3
  · obtain ⟨k1, k2, k3, k4⟩ := S₁.own _ (List.mem_cons_self ..)
    refine (W c.A S₁.ok.room.han).done s _ E k2 fun h' tk hk => ⟨hb, rfl, fun _ _ e => e, ?_⟩
    have : St c ρ (⟨[], [], fun _ => True⟩ :: O) hb { s with heap := h', toks := tk } :=
      S₁.write_own (o₂ := ⟨[], [], fun _ => True⟩) _ hk rfl gid ⟨fun _ h => h, fun _ _ _ _ => trivial, fun _ _ b h => by cases h⟩ trivial (fun b hb => by cases hb) (fun b hb => by cases hb)
    exact this.drop
  · obtain ⟨k1, k2, k3, k4⟩ := S₁.own _ (List.mem_cons_self ..)
    exact (W c.A S₁.ok.room.han).self i s Q E k2 hQ

/-- the items of a list of data -/
def Items (ds : List D) (i : Nat) (h : Heap) (v : Value) : Prop := ∃ d, ds[i]? = some d ∧ V h v d

section
variable {c : Ctx} {ρ ρ' : Rho} {O O' : List Own} {hb hb' : Heap} {s s' : Shared}

/-- one new object is the iterator -/
theorem ix_of {s₁ : Shared} {hb₁ : Heap} {n : Nat} {P : Nat → Value → Prop} {S' : Nat → Heap → Prop} {R : Nat → Heap → Value → Prop} {ex : List Addr} (S : St c ρ O hb s) (x₁ : Ext c.l s hb s₁ hb₁) (S₁ : St c ρ O hb₁ s₁) (o : Obj) (tk : Nat)
    (W : ∀ A : Around, A.handled = none → Walks PW c.w A s₁.heap.objs.size (s₁.heap.objs.size :: ex) [s₁.heap.objs.size] n P S')
    (hst : S' 0 (s₁.heap.push o)) (hlive : ∀ i h, S' i h → ∃ ob, h.get? s₁.heap.objs.size = some ob ∧ ob.cls ≠ .type "code") (hex : ∀ b ∈ ex, ∃ ob, hb₁.get? b = some ob)
    (hR : ∀ i v hb, i < n → Le hb₁ hb → P i v → R i hb v) :
    ∃ hb' W, Ext c.l s hb { s₁ with heap := s₁.heap.push o, toks := tk } hb' ∧ ItOk c.w (.ref s₁.heap.objs.size) n hb' W R ∧
    (∀ i, (W i).Ok) ∧ (W 0).p (s₁.heap.push o) ∧ (∀ b ∈ (W 0).fp, b ∈ (W 0).wr ∨ ∃ ob, hb'.get? b = some ob) ∧ ∀ b ∈ (W 0).wr, s.heap.get? b = none ∧ hb'.get? b = none := by
  have x₂ := S₁.same (keeps_push s₁ o tk)
  have W0 := W {} rfl
  have hl : ∀ i h, S' i h → ∀ b ∈ [s₁.heap.objs.size], ∃ ob, h.get? b = some ob ∧ ob.cls ≠ .type "code" := fun i h hp b hb => by
    rcases List.mem_cons.mp hb with rfl | hb
    · exact hlive i h hp
    · cases hb
  refine ⟨hb₁, ownW [s₁.heap.objs.size] (s₁.heap.objs.size :: ex) S', x₁.trans S.base x₂, ItOk.of_walks W hR hl, fun i => ⟨W0.sub, fun h h' hp k => W0.frame i h h' hp k, hl i⟩, hst, fun b hb => ?_, fun b hb => ?_⟩
  · rcases List.mem_cons.mp hb with rfl | hb
    · exact .inl (List.mem_cons_self ..)
    · exact .inr (hex b hb)
  · rcases List.mem_cons.mp hb with rfl | hb
    · have hn := fresh_size s₁.heap
      refine ⟨x₁.kp.none S.base.tab hn, ?_⟩
      cases e : hb₁.get? s₁.heap.objs.size with
      | none => rfl
      | some o => rw [S₁.base.le _ _ e] at hn; cases hn
    · cases hb

theorem IX.list {e : Expr} {xs : List PyData} (h : EX c ρ O e (.py (.list xs))) : IX c ρ O (eval e c.env) xs.length (Items (xs.map .py)) := by
  intro s hb S E
  refine wpx S h fun v s₁ hb₁ x₁ S₁ r₁ => ?_
  obtain ⟨a, o, vs, n, rfl, g1, g2, g3, g4⟩ := r₁.list_inv
  have hl := g4.length
  simp only [List.length_map, Array.length_toList] at hl
  have ho := S₁.base.le _ _ g1
  refine wpAny_pyIter_list ⟨o, ho, g2, n, g3⟩ ?_
  have hne : a ≠ s₁.heap.objs.size := Nat.ne_of_lt (Heap.lt_size ho)
  refine ix_of S x₁ S₁ _ s₁.toks (fun A hA => hl ▸ Walks.list hA _ a hne vs) ⟨⟨_, Heap.get?_push_size _ rfl, rfl, rfl⟩, o, Heap.get?_push_of_some _ ho, g2, n, g3⟩
    (fun i h hp => let ⟨⟨o, ho, hc, _⟩, _⟩ := hp; ⟨o, ho, by rw [hc]; decide⟩) (fun b hb => ?_) (fun i v hb hi hle hP => ?_)
  · rcases List.mem_cons.mp hb with rfl | hb
    · exact ⟨o, g1⟩
    · cases hb
  · obtain ⟨u, hu, hv⟩ := g4.get (d := .py xs[i]) (i := i) (by simp [hi])
    refine ⟨.py xs[i], by simp [hi], ?_⟩
    have : v = u := by
      rw [Array.getElem?_toList, hP] at hu; exact Option.some.inj hu
    exact this ▸ hv.up hle
theorem IX.tuple {e : Expr} {xs : List PyData} (h : EX c ρ O e (.py (.tuple xs))) : IX c ρ O (eval e c.env) xs.length (Items (xs.map .py)) := by
  intro s hb S E
  refine wpx S h fun v s₁ hb₁ x₁ S₁ r₁ => ?_
  obtain ⟨a, o, vs, n, rfl, g1, g2, g3, g4⟩ := r₁.tuple_inv
  have hl := g4.length
  simp only [List.length_map, Array.length_toList] at hl
  have ho := S₁.base.le _ _ g1
  refine wpAny_pyIter_tuple ⟨o, ho, g2, n, g3⟩ ?_
  have hne : a ≠ s₁.heap.objs.size := Nat.ne_of_lt (Heap.lt_size ho)
  refine ix_of S x₁ S₁ _ s₁.toks (fun A hA => hl ▸ Walks.tuple hA _ a hne vs) ⟨⟨_, Heap.get?_push_size _ rfl, rfl, rfl⟩, o, Heap.get?_push_of_some _ ho, g2, n, g3⟩
    (fun i h hp => let ⟨⟨o, ho, hc, _⟩, _⟩ := hp; ⟨o, ho, by rw [hc]; decide⟩) (fun b hb => ?_) (fun i v hb hi hle hP => ?_)
  · rcases List.mem_cons.mp hb with rfl | hb
    · exact ⟨o, g1⟩
    · cases hb
  · obtain ⟨u, hu, hv⟩ := g4.get (d := .py xs[i]) (i := i) (by simp [hi])
    refine ⟨.py xs[i], by simp [hi], ?_⟩
    have : v = u := by
      rw [Array.getElem?_toList, hP] at hu; exact Option.some.inj hu
    exact this ▸ hv.up hle

/-- the signs of a text -/
def signsD (x : Str) : List PyData := x.cps.toList.map fun k => .str ⟨#[k]⟩
theorem IX.str {e : Expr} {x : Str} (h : EX c ρ O e (.py (.str x))) (ha : x.cps.all (· < 128) = true) : IX c ρ O (eval e c.env) x.length (Items ((signsD x).map .py)) := by
  intro s hb S E
  refine wpx S h fun v s₁ hb₁ x₁ S₁ r₁ => ?_
  obtain ⟨t, rfl⟩ := r₁.str_inv
  refine wpAny_pyIter_ascii ha ?_
  refine ix_of (ex := []) S x₁ S₁ _ s₁.toks (fun A hA => Walks.strAscii hA _ x t) ⟨_, Heap.get?_push_size _ rfl, rfl, rfl⟩
    (fun i h hp => let ⟨o, ho, hc, _⟩ := hp; ⟨o, ho, by rw [hc]; decide⟩) (fun b hb => by cases hb) (fun i v hb hi hle hP => ?_)
  obtain ⟨k, u, hk, rfl⟩ := hP
  refine ⟨.py (.str ⟨#[k]⟩), ?_, V.str⟩
  simp [signsD, Array.getElem?_toList, hk]

/-! ranges -/
def RgV (a b : Int) (h : Heap) (v : Value) : Prop := ∃ r t u x, v = .ref r ∧ IsRange h r a b 1 t u x
theorem RgV.up {a b : Int} {h h' : Heap} {v : Value} (k : Le h h') (x : RgV a b h v) : RgV a b h' v := let ⟨r, t, u, y, e, z⟩ := x; ⟨r, t, u, y, e, k _ _ z⟩
theorem FnC.range1 {w : World} {n : Nat} {P : Heap → Prop} {b : Int} : FnC w (.type "range") n P [.py (.int b)] [] (RgV 0 b) := by
  intro A l s hb R B hP a ha E
  obtain ⟨v, rfl, hv⟩ := ha.one
  obtain ⟨t, rfl⟩ := hv.int_inv
  refine call_range_1 ⟨_, B.keeps (keeps_push s _ _), _, _, _, _, rfl, mx_new (fresh_size _) (Heap.get?_push_size _ rfl)⟩
theorem FnC.range2 {w : World} {n : Nat} {P : Heap → Prop} {a b : Int} : FnC w (.type "range") n P [.py (.int a), .py (.int b)] [] (RgV a b) := by
  intro A l s hb R B hP a ha E
  obtain ⟨v, u, rfl, hv, hu⟩ := ha.two
  obtain ⟨t, rfl⟩ := hv.int_inv; obtain ⟨t', rfl⟩ := hu.int_inv
  refine call_range_2 ⟨_, B.keeps (keeps_push s _ _), _, _, _, _, rfl, mx_new (fresh_size _) (Heap.get?_push_size _ rfl)⟩
def rng (a b : Int) : List Int := (List.range (b - a).toNat).map fun (i : Nat) => a + (i : Int)
def rngD (a b : Int) : List D := (rng a b).map fun i => .py (.int i)
theorem IX.range {t : Sem Value} {a b : Int} (h : TX c ρ O t (RgV a b)) (ha : -(2 ^ 62) ≤ a) (ha' : a < 2 ^ 62) (hb : -(2 ^ 62) ≤ b) (hb' : b < 2 ^ 62) : IX c ρ O t (b - a).toNat (Items (rngD a b)) := by
  intro s hb S E
  refine wpx S h fun v s₁ hb₁ x₁ S₁ r₁ => ?_
  obtain ⟨r, t, u, x, rfl, hr⟩ := r₁
  refine wpAny_pyIter_range (S₁.base.le _ _ hr) (small_one ha ha' ‹_› hb') ?_
  have hsz : Builtin.Range.rangeSize a b 1 = (((b - a).toNat : Nat) : Int) := by
    rw [rangeSize_one]; split <;> omega
  refine ix_of (ex := []) (n := (b - a).toNat) S x₁ S₁ _ s₁.toks (fun A hA => Walks.range hA _ a 1 _) ?_ ?_ (fun b hb => by cases hb) (fun i v hb hi hle hP => ?_)
  · have := Heap.get?_push_size s₁.heap (o := { cls := .type "range_iterator", data := .fields #[rawInt a, rawInt (Builtin.Range.rangeSize a b 1), rawInt 1] }) rfl
    rw [hsz] at this ⊢
    have e1 : a + ((0 : Nat) : Int) * 1 = a := by simp
    have e2 : (((b - a).toNat : Nat) : Int) - ((0 : Nat) : Int) = (((b - a).toNat : Nat) : Int) := by simp
    show IsRangeIter _ _ (a + ((0 : Nat) : Int) * 1) ((((b - a).toNat : Nat) : Int) - ((0 : Nat) : Int)) 1
    rw [e1, e2]
    exact this
  · intro i h hp
    exact ⟨_, hp, fun h => by injection h with h; revert h; decide⟩
  · obtain ⟨t, rfl⟩ := hP
    refine ⟨.py (.int (a + i)), ?_, ?_⟩
    · simp [rngD, rng, hi]
    · have : a + (i : Int) * 1 = a + i := by omega
      rw [this]; exact V.int
end
end Mine
end

/-! ## F10 -/
section
namespace Mine

/-! ### closures of comprehensions -/
def clos (cells : List (Str × Addr)) : List (Str × NameKind) → List (Str × Addr) → List (Str × Addr)
  | [], acc => acc
  | (n, k) :: r, acc => if k == .free then clos cells r ((n, (cells.lookup n).getD 0) :: acc) else clos cells r acc

theorem closureFor_eq {scope : Scope} {env : Env} (h : scope.names.all (fun x => x.2 != .free || (env.cells.lookup x.1).isSome) = true) : closureFor scope env = pure (clos env.cells scope.names []) := by
  unfold closureFor
  have key : ∀ (names : List (Str × NameKind)) (acc : List (Str × Addr)), names.all (fun x => x.2 != .free || (env.cells.lookup x.1).isSome) = true →
      (forIn names acc (fun x r => if (x.2 == NameKind.free) = true then do let a ← cellOf env x.1; pure (ForInStep.yield ((x.1, a) :: r)) else pure (ForInStep.yield r)) : Sem (List (Str × Addr))) = pure (clos env.cells names acc) := by
    intro names
    induction names with
    | nil => intro acc _; rfl
    | cons x r ih =>
      intro acc ha
      obtain ⟨n, k⟩ := x
      simp only [List.all_cons, Bool.and_eq_true] at ha
      rw [List.forIn_cons]
      unfold clos
      cases hk : (k == NameKind.free) with
      | false =>
        simp only [hk, Bool.false_eq_true, if_false, pure_bind]
        exact ih acc ha.2
      | true =>
        have h1 : (env.cells.lookup n).isSome = true := by
          have := ha.1
          have hk' : k = .free := by simpa using hk
          subst hk'
          simpa using this
        obtain ⟨a, e⟩ := Option.isSome_iff_exists.mp h1
        simp only [hk, if_true, cellOf, e, pure_bind, Option.getD_some]
        exact ih _ ha.2
  have := key scope.names [] h
  first
    | (rw [this]; rfl)
    | (simp only [this]; rfl)

theorem clos_mem {cells : List (Str × Addr)} : ∀ {names : List (Str × NameKind)} {acc : List (Str × Addr)} {n : Str} {a : Addr}, names.all (fun x => x.2 != .free || (cells.lookup x.1).isSome) = true →
    (clos cells names acc).lookup n = some a → acc.lookup n = some a ∨ cells.lookup n = some a
  | [], _, _, _, _, h => .inl h
  | (m, k) :: r, acc, n, a, ha, h => by
    simp only [List.all_cons, Bool.and_eq_true] at ha
    unfold clos at h
    cases hk : (k == NameKind.free) with
    | false => rw [hk] at h; exact clos_mem ha.2 h
    | true =>
      rw [hk] at h
      rcases clos_mem ha.2 h with h | h
      · rw [List.lookup_cons] at h
        cases hb : n == m with
        | false => rw [hb] at h; exact .inl h
        | true =>
          rw [hb] at h
          have hk' : k = .free := by simpa using hk
          have h1 : (cells.lookup m).isSome = true := by
            have := ha.1; subst hk'; simpa using this
          obtain ⟨a', e⟩ := Option.isSome_iff_exists.mp h1
          rw [e] at h
          cases h
          exact .inr (by rw [beq_iff_eq.mp hb]; exact e)
      · exact .inr h

theorem cellsFrom_app : ∀ (names : List (Str × NameKind)) (k : Nat) (acc : List (Str × Addr)), cellsFrom k names acc = cellsFrom k names [] ++ acc
  | [], _, _ => rfl
  | (n, kd) :: r, k, acc => by
    unfold cellsFrom
    split
    · rw [cellsFrom_app r (k + 1) ((n, k) :: acc), cellsFrom_app r (k + 1) [(n, k)]]; simp
    · exact cellsFrom_app r k acc
theorem lookup_app {α : Type} : ∀ (xs ys : List (Str × α)) (n : Str), (xs ++ ys).lookup n = (xs.lookup n).or (ys.lookup n)
  | [], _, _ => rfl
  | (k, v) :: r, ys, n => by
    rw [List.cons_append, List.lookup_cons, List.lookup_cons]
    cases n == k with
    | true => rfl
    | false => exact lookup_app r ys n
theorem cellsFrom_has : ∀ (names : List (Str × NameKind)) (k : Nat) (n : Str), (n, NameKind.cell) ∈ names → ((cellsFrom k names []).lookup n).isSome = true
  | (m, kd) :: r, k, n, h => by
    unfold cellsFrom
    rcases List.mem_cons.mp h with h | h
    · cases h
      rw [if_pos (by decide), cellsFrom_app, lookup_app]
      cases hq : (cellsFrom (k + 1) r []).lookup m <;> simp [List.lookup_cons, hq]
    · have ih := fun k => cellsFrom_has r k n h
      split
      · rw [cellsFrom_app, lookup_app]
        obtain ⟨a, e⟩ := Option.isSome_iff_exists.mp (ih (k + 1))
        rw [e]; rfl
      · exact ih k

/-- the block of a comprehension -/
def cctx (c : Ctx) (scope : Scope) (C : Addr) (s : Shared) (hb : Heap) : Ctx :=
  { c with env := compEnvC scope (cellsFrom (C + 1) scope.names (clos c.env.cells scope.names [])) C c.env, lo := c.l, s₀ := s, hb₀ := hb, wn := fun n => scope.names.lookup n == some .cell, wl := true }

/-- a name of the block around, seen within -/
def Vis (c : Ctx) (scope : Scope) (y : Str) : Prop :=
  ∃ a, c.env.cells.lookup y = some a ∧ (c.env.kindOf y = some .cell ∨ c.env.kindOf y = some .free) ∧ (∀ C, (cellsFrom (C + 1) scope.names (clos c.env.cells scope.names [])).lookup y = some a) ∧
    ((relabel scope c.env).names.lookup y = some .cell ∨ (relabel scope c.env).names.lookup y = some .free)

def keepNames (ns : List Str) (ρ : Rho) : Rho := fun y => if ns.contains y then ρ y else none

theorem comp_enter {c : Ctx} {ρ : Rho} {O : List Own} {hb hb₂ : Heap} {s s₂ : Shared} {scope : Scope} {ns : List Str} (S : St c ρ O hb s) (x : Ext c.l s hb s₂ hb₂)
    (hfree : scope.names.all (fun x => x.2 != .free || (c.env.cells.lookup x.1).isSome) = true) (hkind : scope.kind = .function) (hvis : ∀ y ∈ ns, Vis c scope y)
    {A : Around} {E : Value → Shared → Prop} {Q : Env → Shared → Prop} {Ow : List Own}
    (hOw : ∀ o ∈ Ow, o.Ok ∧ o.p s₂.heap ∧ (∀ b ∈ o.fp, b ∈ o.wr ∨ ∃ ob, hb₂.get? b = some ob) ∧ ∀ b ∈ o.wr, s.heap.get? b = none ∧ hb₂.get? b = none) (hOd : Ow.Pairwise fun x y => ∀ b ∈ x.wr, b ∉ y.wr)
    (h : ∀ C s₃, s₂.heap.objs.size ≤ C → Keeps s₂ s₃ → St (cctx c scope C s hb) (keepNames ns ρ) Ow hb₂ s₃ → Q (newEnv scope C c.env.globals (cellsFrom (C + 1) scope.names (clos c.env.cells scope.names [])) c.env.qual none .none (some c.env) builtinsNs) s₃) :
    wpAny (MM c.w) A (newFunctionEnv scope c.env.globals (clos c.env.cells scope.names []) [] c.env.qual none .none (some c.env)) Q E s₂ := by
  have S₂ := S.step x
  simp only [newFunctionEnv, Option.isSome_some, if_true]
  refine wpAny_bind (wpAny_alloc ?_)
  refine wpAny_bind (wpAny_layCells _ (fun name kind cells => by cases hkc : kind == NameKind.cell <;> simp [hkc]) _ _ _ _ ?_)
  refine wpAny_bind ?_
  rw [List.forIn_nil]
  refine wpAny_pure (wpAny_pure ?_)
  have hsz : (s₂.heap.push { cls := .type "dict", data := .dict #[] }).objs.size = s₂.heap.objs.size + 1 := Heap.size_push ..
  have ok := cellsFrom_ok scope.names (s₂.heap.push { cls := .type "dict", data := .dict #[] }) (s₂.heap.objs.size + 1) [] ⟨fun _ _ hm => (nomatch hm), List.Pairwise.nil⟩ (by rw [hsz]; exact Nat.le_refl _)
  rw [hsz] at ok
  have hk : ∀ b o, s₂.heap.get? b = some o → (pushCells (s₂.heap.push { cls := .type "dict", data := .dict #[] }) scope.names).get? b = some o := fun b o e => pushCells_keeps _ _ _ _ (Heap.get?_push_of_some _ e)
  have K : Keeps s₂ { s₂ with heap := pushCells (s₂.heap.push { cls := .type "dict", data := .dict #[] }) scope.names } := ⟨_, s₂.toks, rfl, hk⟩
  have hL0 : ∀ b, s₂.heap.objs.size ≤ b → s₂.heap.get? b = none := fun b hb => fresh_ge hb
  have hnew : ∀ b, s₂.heap.objs.size ≤ b → hb₂.get? b = none ∧ s.heap.get? b = none := fun b hb => by
    refine ⟨?_, x.kp.none S.base.tab (hL0 b hb)⟩
    cases e : hb₂.get? b with
    | none => rfl
    | some o => have := S₂.base.le b o e; rw [hL0 b hb] at this; cases this
  have x₃ := S₂.same K
  have S₃ := S₂.step x₃
  have hNs : ∃ m, (pushCells (s₂.heap.push { cls := .type "dict", data := .dict #[] }) scope.names).Ns s₂.heap.objs.size m := by
    refine ⟨fun _ => none, ?_⟩
    exact (Heap.Ns.new ..).keeps fun b o e => pushCells_keeps _ _ _ _ e
  rw [hsz]
  refine h s₂.heap.objs.size _ (Nat.le_refl _) K ?_
  generalize s₂.heap.objs.size = C at *
  have hlook : ∀ n a, (cellsFrom (C + 1) scope.names (clos c.env.cells scope.names [])).lookup n = some a →
      ((cellsFrom (C + 1) scope.names []).lookup n = some a) ∨ ((cellsFrom (C + 1) scope.names []).lookup n = none ∧ c.env.cells.lookup n = some a) := fun n a e => by
    rw [cellsFrom_app, lookup_app] at e
    cases h1 : (cellsFrom (C + 1) scope.names []).lookup n with
    | some a' => rw [h1] at e; exact .inl e
    | none =>
      rw [h1] at e
      rcases clos_mem hfree e with h2 | h2
      · cases h2
      · exact .inr ⟨rfl, h2⟩
  have hnewc : ∀ n a, (cellsFrom (C + 1) scope.names []).lookup n = some a → C < a := fun n a e => (ok.empty n a (mem_of_lookup e)).2
  have hold : ∀ n a, c.env.cells.lookup n = some a → a < C := fun n a e => by
    obtain ⟨_, _, ⟨v, o, e', _⟩, _⟩ := S₂.cells n a e
    exact Nat.lt_of_not_le fun hle => by rw [hL0 a hle] at e'; cases e'
  refine { ok := ?_, base := S₃.base, env := ?_, loc := ⟨hNs, (hnew C (Nat.le_refl _)).1, fun _ => (hnew C (Nat.le_refl _)).2⟩, cells := ?_, cellsA := ?_, own := ?_, disj := hOd, pers := S₃.pers, ext := x.trans S.base x₃ }
  · exact { room := S.ok.room, kind := hkind, glob := S.ok.glob, bi := S.ok.bi, lolo := fun b hb => hb, new := fun b hb => .inl hb, pup := S.ok.pup, tab₀ := S.base.tab }
  · intro y d e
    unfold keepNames at e
    split at e
    · rename_i hy
      obtain ⟨a, h1, h2, h3, h4⟩ := hvis y (by simpa using hy)
      obtain ⟨v, hs, hv⟩ := S₃.env y d e
      refine ⟨v, .inr ⟨h4, a, h3 C, ?_⟩, hv⟩
      rcases hs with ⟨k1, _⟩ | ⟨_, a', k2, k3⟩
      · rcases h2 with h2 | h2 <;> rw [h2] at k1 <;> cases k1
      · rw [h1] at k2; cases k2; exact k3
    · cases e
  · intro n a e
    rcases hlook n a e with h1 | ⟨h1, h2⟩
    · have hlt := hnewc n a h1
      have hn := hnew a (Nat.le_of_lt hlt)
      exact ⟨Nat.ne_of_gt hlt, hn.1, ⟨_, (ok.empty n a (mem_of_lookup h1)).1⟩, fun _ => hn.2⟩
    · obtain ⟨_, k2, k3, _⟩ := S₃.cells n a h2
      refine ⟨Nat.ne_of_lt (hold n a h2), k2, k3, fun hw => ?_⟩
      have hw' : scope.names.lookup n = some .cell := by simpa [cctx] using hw
      have := cellsFrom_has scope.names (C + 1) n (mem_of_lookup hw')
      rw [h1] at this; cases this
  · intro n n' a hw e e'
    have hw' : scope.names.lookup n = some .cell := by simpa [cctx] using hw
    obtain ⟨a', h1⟩ := Option.isSome_iff_exists.mp (cellsFrom_has scope.names (C + 1) n (mem_of_lookup hw'))
    rcases hlook n a e with k1 | ⟨k1, _⟩
    · rcases hlook n' a e' with j1 | ⟨_, j2⟩
      · exact name_of_addr ok.apart (mem_of_lookup j1) (mem_of_lookup k1)
      · exact absurd (hold n' a j2) (Nat.not_lt.mpr (Nat.le_of_lt (hnewc n a k1)))
    · rw [h1] at k1; cases k1
  · intro o ho
    obtain ⟨k1, k2, k3, k4⟩ := hOw o ho
    refine ⟨k1, k1.frame _ _ k2 fun b _ ob e => hk b ob e, k3, fun b hbw => ?_⟩
    obtain ⟨ob, e, _⟩ := k1.live _ k2 b hbw
    have hlt : b < C := Nat.lt_of_not_le fun hle => by rw [hL0 b hle] at e; cases e
    refine ⟨(k4 b hbw).2, (k4 b hbw).1, ?_, ?_, Nat.ne_of_lt hlt, fun n a h => ?_⟩
    · rintro rfl; obtain ⟨ps, e'⟩ := S.base.tab.obj; rw [(k4 _ hbw).1] at e'; cases e'
    · intro q; obtain ⟨_, _, m, o', _, _, e', _⟩ := S.base.fr b q; rw [(k4 _ hbw).1] at e'; cases e'
    · rcases hlook n a h with h1 | ⟨_, h2⟩
      · exact Nat.ne_of_gt (Nat.lt_trans hlt (hnewc n a h1))
      · rintro rfl
        obtain ⟨_, _, ⟨v, o', e', _⟩, _⟩ := S.cells n a h2
        rw [(k4 _ hbw).1] at e'; cases e'
end Mine
end

/-! ## F11 -/
section
namespace Mine

theorem St.perm {c : Ctx} {ρ : Rho} {O O' : List Own} {hb : Heap} {s : Shared} (S : St c ρ O hb s) (h : O.Perm O') : St c ρ O' hb s :=
  { S with own := fun o ho => S.own o (h.mem_iff.mpr ho), disj := (h.pairwise_iff (fun {x y} hxy b hb hb' => hxy b hb' hb)).mp S.disj }

def accOwn (D : Addr) (ys : List Value) : Own := ⟨[D], [D], fun h => h.PlainList D ys.toArray⟩
theorem accOwn_ok (D : Addr) (ys : List Value) : (accOwn D ys).Ok :=
  ⟨fun _ h => h, fun h h' hp k => hp.at fun o e => k D (List.mem_cons_self ..) o e, fun h ⟨n, e⟩ b hb => by
    rcases List.mem_cons.mp hb with rfl | hb
    · exact ⟨_, e, fun h => by injection h with h; revert h; decide⟩
    · cases hb⟩

def compTestsS (ifs : List Expr) (env : Env) : Sem Bool :=
  forIn ifs true fun c r => if r = true then do let ok ← isTrue c env (eval c env); pure (ForInStep.yield ok) else pure (ForInStep.yield r)

theorem TX.noTests {c : Ctx} {ρ : Rho} {O : List Own} {env : Env} : TX c ρ O (compTestsS [] env) fun _ ok => ok = true := by
  intro s hb S E
  unfold compTestsS
  rw [List.forIn_nil]
  exact wpAny_pure ⟨hb, S.refl, rfl⟩
theorem TX.oneTest {c : Ctx} {ρ : Rho} {O : List Own} {t : Expr} {b : Bool} (h : TR c ρ O t b) : TX c ρ O (compTestsS [t] c.env) fun _ ok => ok = b := by
  intro s hb S E
  unfold compTestsS
  rw [List.forIn_cons]
  refine wpAny_bind ?_
  simp only [if_true]
  refine wpAny_bind (wpx S h fun v s₁ hb₁ x₁ S₁ r₁ => wpAny_pure ?_)
  dsimp only
  rw [List.forIn_nil]
  exact wpAny_pure ⟨hb₁, x₁, r₁⟩

/-- an element, with what it makes -/
def EltG (c : Ctx) (ρ : Rho) (elt : Expr) (G : Value → List Own → Heap → Prop) : Prop :=
  ∀ O s hb, St c ρ O hb s → ∀ E, wpAny (MM c.w) c.A (eval elt c.env) (fun y s' => ∃ hb' Ow, Le hb hb' ∧ St c ρ (Ow ++ O) hb' s' ∧ G y Ow hb') E s
theorem EltG.data {c : Ctx} {ρ : Rho} {elt : Expr} {d : D} (h : ∀ O, EX c ρ O elt d) : EltG c ρ elt fun y Ow hb => Ow = [] ∧ V hb y d :=
  fun O s hb S E => wpx S (h O) fun v s₁ hb₁ x₁ S₁ r₁ => ⟨hb₁, [], x₁.le, S₁, rfl, r₁⟩

theorem comp_block {c : Ctx} {ρ : Rho} {O : List Own} {hb hb₂ : Heap} {s s₂ : Shared} {scope : Scope} {ns : List Str} {elt iter : Expr} {x : Str} {px : Pos} {ifs : List Expr} {pos : Pos} {it : Value} {ds : List D} {W : Nat → Own}
    {E : Value → Shared → Prop} {RR : Value → Addr → Result → Shared → Prop} {p : Nat → Bool} {G : Nat → Value → List Own → Heap → Prop} {Inv : Nat → List Value → List Own → Heap → Prop}
    (S : St c ρ O hb s) (X : Ext c.l s hb s₂ hb₂) (I : ItOk c.w it ds.length hb₂ W (Items ds)) (hok : ∀ i, (W i).Ok) (hp0 : (W 0).p s₂.heap) (hfp : ∀ b ∈ (W 0).fp, b ∈ (W 0).wr ∨ ∃ ob, hb₂.get? b = some ob)
    (hwr : ∀ b ∈ (W 0).wr, s.heap.get? b = none ∧ hb₂.get? b = none)
    (hfree : scope.names.all (fun x => x.2 != .free || (c.env.cells.lookup x.1).isSome) = true) (hkind : scope.kind = .function) (hvis : ∀ y ∈ ns, Vis c scope y) (hx : ∀ C, Sto (cctx c scope C s hb) x)
    (hn : ds.length ≤ sizeLine)
    (hinv0 : Inv 0 [] [] hb₂) (hup : ∀ i ys Ox hb hb', Le hb hb' → Inv i ys Ox hb → Inv i ys Ox hb') (hlen : ∀ i ys Ox hb, Inv i ys Ox hb → ys.length ≤ i)
    (hskip : ∀ i ys Ox hb, p i = false → Inv i ys Ox hb → Inv (i + 1) ys Ox hb)
    (hadd : ∀ i ys Ox hb y Ow, p i = true → Inv i ys Ox hb → G i y Ow hb → Inv (i + 1) (ys ++ [y]) (Ow ++ Ox) hb)
    (htest : ∀ C O i d, ds[i]? = some d → TX (cctx c scope C s hb) (put (keepNames ns ρ) x d) O (compTestsS ifs (cctx c scope C s hb).env) fun _ ok => ok = p i)
    (helt : ∀ C i d, ds[i]? = some d → p i = true → EltG (cctx c scope C s hb) (put (keepNames ns ρ) x d) elt (G i))
    (hRR : ∀ D C s' hb' ys Ox ρ', St (cctx c scope C s hb) ρ' (accOwn D ys :: Ox) hb' s' → Le hb₂ hb' → Inv ds.length ys Ox hb' → RR (.ref D) C (.ok .next) s') :
    wpAny (MM c.w) c.A (newList []) (fun acc s₃ => wpAny (MM c.w) c.A (newFunctionEnv scope c.env.globals (clos c.env.cells scope.names []) [] c.env.qual none .none (some c.env)) (fun cenv s₄ =>
      codeAny (MM c.w) c.A (.compStart (.ListComp elt [⟨.Name x px, iter, ifs, 0⟩] scope pos) 0 it acc { cenv with scope := relabel scope c.env }) (RR acc cenv.locals) s₄) E s₃) E s₂ := by
  have S₂ := S.step X
  refine wpAny_newObj_type ?_
  have hD : s₂.heap.get? s₂.heap.objs.size = none := fresh_size _
  have hDb : hb₂.get? s₂.heap.objs.size = none := by
    cases e : hb₂.get? s₂.heap.objs.size with
    | none => rfl
    | some o => have := S₂.base.le _ _ e; rw [hD] at this; cases this
  have x₃ := S₂.same (keeps_push s₂ { cls := .type "list", dict := none, data := .seq ([] : List Value).toArray } s₂.toks)
  have X₃ := X.trans S.base x₃
  refine comp_enter (ns := ns) (Ow := [W 0, accOwn s₂.heap.objs.size []]) S X₃ hfree hkind hvis (fun o ho => ?_) ?_ fun C s₄ hC K S₄ => ?_
  · rcases List.mem_cons.mp ho with rfl | ho
    · exact ⟨hok 0, (hok 0).frame _ _ hp0 fun b _ ob e => Heap.get?_push_of_some _ e, hfp, hwr⟩
    · rcases List.mem_cons.mp ho with rfl | ho
      · refine ⟨accOwn_ok _ _, ⟨_, Heap.get?_push_size _ rfl⟩, fun b hb => .inl hb, fun b hb => ?_⟩
        rcases List.mem_cons.mp hb with rfl | hb
        · exact ⟨X.kp.none S.base.tab hD, hDb⟩
        · cases hb
      · cases ho
  · refine List.pairwise_cons.mpr ⟨fun y hy b hb hb' => ?_, List.pairwise_singleton ..⟩
    rcases List.mem_cons.mp hy with rfl | hy
    · rcases List.mem_cons.mp hb' with rfl | hb'
      · obtain ⟨ob, e, _⟩ := (hok 0).live _ hp0 _ hb
        rw [hD] at e; cases e
      · cases hb'
    · cases hy
  generalize hDD : s₂.heap.objs.size = D at *
  show codeAny (MM c.w) c.A (.compStart (.ListComp elt [⟨.Name x px, iter, ifs, 0⟩] scope pos) 0 it (.ref D) (cctx c scope C s hb).env) (RR (.ref D) C) s₄
  have loop : codeAny (MM c.w) c.A (.compLoop (.ListComp elt [⟨.Name x px, iter, ifs, 0⟩] scope pos) 0 it (.ref D) (cctx c scope C s hb).env) (RR (.ref D) C) s₄ := by
    refine codeAny_compLoop_tests (fun k s' => ∃ i hb' ys Ox, k = ds.length + 1 - i ∧ i ≤ ds.length ∧ Le hb₂ hb' ∧ Inv i ys Ox hb' ∧ ∃ ρ', (∀ y d, keepNames ns ρ y = some d → y ≠ x → ρ' y = some d) ∧
      St (cctx c scope C s hb) ρ' (W i :: accOwn D ys :: Ox) hb' s') ?_ (ds.length + 1) ⟨0, hb₂, [], [], rfl, Nat.zero_le _, fun _ _ e => e, hinv0, _, fun y d e _ => e, S₄⟩
    rintro k s' ⟨i, hb', ys, Ox, rfl, hi, hle, hinv, ρ', hρ, S'⟩
    by_cases hlt : i < ds.length
    · refine wpAny_mono (I.step (cctx c scope C s hb) rfl i s' hb' ρ' _ hlt hle S' _) (fun r s₁ ⟨v, hb₁, hr, hle₁, S₁, d, hd, hv⟩ => ?_) fun _ _ e => e
      subst hr
      dsimp only
      refine wpAny_assign_Name (wpAny_mono (S₁.store (hx C) hv) (fun _ s₂' S₂' => ?_) fun _ _ e => e)
      have S₃ : St (cctx c scope C s hb) (put (keepNames ns ρ) x d) (W (i + 1) :: accOwn D ys :: Ox) hb₁ s₂' := S₂'.less fun y d' e => by
        unfold put at e ⊢
        by_cases q : y = x
        · rw [if_pos q] at e ⊢; exact e
        · rw [if_neg q] at e ⊢; exact hρ y d' e q
      refine wpx S₃ (htest C _ i d hd) fun ok s₃ hb₃ x₃ S₃' r₃ => ?_
      subst r₃
      have hle3 : Le hb₂ hb₃ := fun b o e => x₃.le b o (hle₁ b o (hle b o e))
      have hinv3 := hup _ _ _ _ _ (fun b o e => x₃.le b o (hle₁ b o e)) hinv
      have hρ3 : ∀ y d', keepNames ns ρ y = some d' → y ≠ x → put (keepNames ns ρ) x d y = some d' := fun y d' e q => by unfold put; rw [if_neg q]; exact e
      cases hpi : p i with
      | false =>
        simp only [Bool.false_eq_true, if_false]
        exact ⟨_, by omega, i + 1, hb₃, ys, Ox, rfl, hlt, hle3, hskip _ _ _ _ hpi hinv3, _, hρ3, S₃'⟩
      | true =>
        simp only [if_true]
        refine wpAny_mono (helt C i d hd hpi _ _ _ S₃' _) (fun y s₅ ⟨hb₅, Ow, hle₅, S₅, hG⟩ => ?_) fun _ _ e => e
        have S₆ : St (cctx c scope C s hb) (put (keepNames ns ρ) x d) (accOwn D ys :: W (i + 1) :: (Ow ++ Ox)) hb₅ s₅ := by
          refine S₅.perm ?_
          refine (List.perm_middle).trans ?_
          refine (List.Perm.cons _ List.perm_middle).trans ?_
          exact List.Perm.swap ..
        obtain ⟨k1, k2, k3, k4⟩ := S₆.own _ (List.mem_cons_self ..)
        have hl := hlen _ _ _ _ hinv3
        refine wpAny_list_append_plain (hsz := by rw [List.size_toArray]; omega) k2 fun h₇ hl₇ hs₇ => ?_
        refine ⟨_, by omega, i + 1, hb₅, ys ++ [y], Ow ++ Ox, rfl, hlt, fun b o e => hle₅ b o (hle3 b o e), hadd _ _ _ _ _ _ hpi (hup _ _ _ _ _ hle₅ hinv3) hG, _, hρ3, ?_⟩
        refine St.swap (S₆.write_own (o₂ := accOwn D (ys ++ [y])) _ (fun b o hb e => hs₇.extBut b o (fun h => hb (h ▸ List.mem_cons_self ..)) e) rfl gid (accOwn_ok _ _) ?_ (fun b h => h) fun b h => .inl h)
        show h₇.PlainList D (ys ++ [y]).toArray
        simpa using hl₇
    · have : i = ds.length := by omega
      subst this
      refine wpAny_mono (I.done (cctx c scope C s hb) rfl s' hb' ρ' _ hle S' _) (fun r s₁ ⟨hb₁, hr, hle₁, S₁⟩ => ?_) fun _ _ e => e
      subst hr
      exact hRR D C s₁ hb₁ ys Ox ρ' S₁ (fun b o e => hle₁ b o (hle b o e)) (hup _ _ _ _ _ hle₁ hinv)
  exact codeAny_compStart_list loop (I.self (cctx c scope C s hb) rfl 0 s₄ hb₂ _ _ S₄ _ _ loop)
end Mine
end

/-! ## F12 -/
section
namespace Mine

theorem Tab.mod {h h' : Heap} {W : Addr → Prop} (T : Tab h) (hk : ∀ b o, ¬ W b → h.get? b = some o → h'.get? b = some o) (hPH : ¬ W PH) (hW : ∀ b, W b → ∀ o, h.get? b = some o → ∀ vs, o.data ≠ .fields vs) : Tab h' := by
  obtain ⟨ps, h1, h2, h3⟩ := T
  have kf : ∀ b o vs, h.get? b = some o → o.data = .fields vs → h'.get? b = some o := fun b o vs e d => hk b o (fun w => hW b w o e vs d) e
  obtain ⟨o1, vs, file, tf, flags, tg, inF, text, tt, op, a1, a2, a3, a4, a5, a6, a7, a8, a9, a10, a11⟩ := h1
  obtain ⟨⟨o2, vs2, b1, b2, b3, b4⟩, b5⟩ := h2
  refine ⟨ps, ⟨o1, vs, file, tf, flags, tg, inF, text, tt, op, kf _ _ _ a1 a2, a2, a3, a4, a5, a6, a7, hk _ _ hPH a8, a9, a10, a11⟩, ⟨⟨o2, vs2, kf _ _ _ b1 b3, b2, b3, b4⟩, hk _ _ hPH b5⟩, h3.imp id ?_⟩
  rintro ⟨c', o3, h4, h5, h6⟩
  obtain ⟨_, vs, t, h7, _⟩ := id h6
  exact ⟨c', o3, h4, kf c' o3 vs h5 h7, h6⟩

theorem ext_touch {c : Ctx} {ρ : Rho} {O : List Own} {hb : Heap} {s : Shared} {h' : Heap} (S : St c ρ O hb s) (hw : c.wl = true) (hs : Heap.SameBut c.env.locals s.heap h') : Ext c.lo c.s₀ c.hb₀ { s with heap := h' } hb := by
  have hk : ∀ b o, b ≠ c.env.locals → s.heap.get? b = some o → h'.get? b = some o := fun b o h e => (hs.2 b h).trans e
  obtain ⟨⟨m, o', es, ep, e', d', r'⟩, hL, hL0'⟩ := S.loc
  have hL0 := hL0' hw
  refine ⟨⟨fun b o h1 h2 e => ?_, fun b h1 h2 o e => ?_, fun t => ?_, S.ext.kp.os, S.ext.kp.bare⟩, S.ext.le, S.ext.gr, fun b o e => hk b o (by rintro rfl; rw [hL] at e; cases e) (S.base.le b o e)⟩
  · exact hk b o (by rintro rfl; rw [hL0] at e; cases e) (S.ext.kp.keep b o h1 h2 e)
  · obtain ⟨sl, e1⟩ := S.ext.kp.fr b h1 h2 o e
    exact ⟨sl, hk b _ (by rintro rfl; rw [hL0] at e; cases e) e1⟩
  · refine (S.ext.kp.tab t).mod (W := fun b => b = c.env.locals) hk (Ne.symm S.loc_ne) ?_
    rintro b rfl o e vs hd
    rw [e'] at e; cases e; rw [hd] at d'; cases d'

/-- an expression that makes a list of its own -/
def FX (c : Ctx) (ρ : Rho) (O : List Own) (t : Sem Value) (xs : List PyData) : Prop :=
  ∀ s hb, St c ρ O hb s → ∀ E, wpAny (MM c.w) c.A t (fun v s' => ∃ hb' a vs, v = .ref a ∧ Ext c.l s hb s' hb' ∧ s.heap.get? a = none ∧ hb'.get? a = none ∧ s'.heap.PlainList a vs.toArray ∧ VL hb' vs (xs.map .py)) E s

/-- a fresh thing is laid by -/
noncomputable def addH (hb : Heap) (a : Addr) (h : Heap) : Heap := only (fun b => (∃ o, hb.get? b = some o) ∨ b = a) h
theorem Ext.add {l : List Env} {s s' : Shared} {hb hb' : Heap} (x : Ext l s hb s' hb') {a : Addr} (hn : s.heap.get? a = none) : Ext l s hb s' (addH hb' a s'.heap) ∧ Le hb' (addH hb' a s'.heap) := by
  have k : Le hb' (addH hb' a s'.heap) := fun b o e => only_get.mpr ⟨.inl ⟨o, e⟩, x.le' b o e⟩
  refine ⟨⟨x.kp, fun b o e => k b o (x.le b o e), fun b o e => ?_, fun b o e => (only_get.mp e).2⟩, k⟩
  obtain ⟨h | rfl, e'⟩ := only_get.mp e
  · obtain ⟨o', h⟩ := h
    have := x.le' b o' h
    rw [e'] at this; cases this
    exact x.gr b o h
  · exact .inr hn
theorem FX.ex {c : Ctx} {ρ : Rho} {O : List Own} {e : Expr} {xs : List PyData} (h : FX c ρ O (eval e c.env) xs) : EX c ρ O e (.py (.list xs)) := by
  intro s hb S E
  refine wpAny_mono (h s hb S E) (fun v s' ⟨hb', a, vs, hv, x, hn, _, ⟨n, hl⟩, hr⟩ => ?_) fun _ _ e => e
  subst hv
  obtain ⟨x', k⟩ := x.add hn
  exact ⟨_, x', .mkList (only_get.mpr ⟨.inr rfl, hl⟩) rfl rfl (hr.up k)⟩

/-- a list comprehension over items of data -/
theorem FX.comp {c : Ctx} {ρ : Rho} {O : List Own} {scope : Scope} {ns : List Str} {elt iter : Expr} {x : Str} {px : Pos} {ifs : List Expr} {pos : Pos} {ds : List D} {p : Nat → Bool} {g : Nat → PyData}
    (hit : IX c ρ O (eval iter c.env) ds.length (Items ds)) (hn : ds.length ≤ sizeLine)
    (hfree : scope.names.all (fun x => x.2 != .free || (c.env.cells.lookup x.1).isSome) = true) (hkind : scope.kind = .function) (hnames : ∀ x ∈ scope.names, x.2 = .local → scope.names.lookup x.1 = some .local)
    (hvis : ∀ y ∈ ns, Vis c scope y) (hx : ∀ C s hb, Sto (cctx c scope C s hb) x)
    (htest : ∀ C s hb O i d, ds[i]? = some d → TX (cctx c scope C s hb) (put (keepNames ns ρ) x d) O (compTestsS ifs (cctx c scope C s hb).env) fun _ ok => ok = p i)
    (helt : ∀ C s hb O i d, ds[i]? = some d → p i = true → EX (cctx c scope C s hb) (put (keepNames ns ρ) x d) O elt (.py (g i)))
    (hs : ∀ x, foldedSetIterable iter c.env x = pure x := by intro _; rfl) :
    FX c ρ O (eval (.ListComp elt [⟨.Name x px, iter, ifs, 0⟩] scope pos) c.env) (((List.range ds.length).filter p).map g) := by
  intro s hb S E
  rw [eval_ListComp]
  refine wpAny_comprehension_free (use := none) rfl hs (closureFor_eq hfree) hkind hnames ?_
  refine wpAny_mono (hit s hb S E) (fun xv s₁ h₁ => wpAny_mono h₁ (fun it s₂ ⟨hb₂, W, X, I, hok, hp0, hfp, hwr⟩ => ?_) fun _ _ e => e) fun _ _ e => e
  refine comp_block (ns := ns) (p := p) (G := fun i y Ow hb => Ow = [] ∧ V hb y (.py (g i))) (Inv := fun i ys Ox hb => Ox = [] ∧ VL hb ys ((((List.range i).filter p).map g).map .py)) S X I hok hp0 hfp hwr hfree hkind hvis
    (fun C => hx C s hb) hn ⟨rfl, .nil⟩ (fun i ys Ox hb hb' k h => ⟨h.1, h.2.up k⟩) (fun i ys Ox hb h => ?_) (fun i ys Ox hb hp h => ?_) (fun i ys Ox hb y Ow hp h hG => ?_)
    (fun C O i d hd => htest C s hb O i d hd) (fun C i d hd hp => EltG.data fun O => helt C s hb O i d hd hp) fun D C s' hb' ys Ox ρ' S' hle hinv => ?_
  · rw [h.2.length, List.length_map, List.length_map]
    exact Nat.le_trans (List.length_filter_le ..) (by simp)
  · refine ⟨h.1, ?_⟩
    rw [List.range_succ, List.filter_append]
    simpa [hp] using h.2
  · refine ⟨by rw [hG.1, h.1]; rfl, ?_⟩
    rw [List.range_succ, List.filter_append]
    simp only [List.filter_cons, hp, if_true, List.filter_nil, List.map_append, List.map_cons, List.map_nil]
    exact h.2.append (.cons hG.2 .nil)
  · obtain ⟨⟨m, hm⟩, hC, hC0⟩ := S'.loc
    obtain ⟨k1, k2, k3, k4⟩ := S'.own _ (List.mem_cons_self ..)
    refine ⟨m, hm, fun h' hs' => ?_⟩
    have hD := k4 D (List.mem_cons_self ..)
    refine ⟨hb', D, ys, rfl, ext_touch S' rfl hs', hD.s₀, hD.hb, ?_, hinv.2⟩
    exact k2.at fun o e => (hs'.2 D hD.loc).trans e
end Mine
end

/-! ## F13 -/
section
namespace Mine

section
variable {c : Ctx} {ρ ρ' : Rho} {O O' : List Own} {hb hb' : Heap} {s s' : Shared}

/-- what a turn of a loop leaves -/
def Turn (Inv : Nat → Rho → List Own → Prop) (i : Nat) (W : Own) (K : Out → Prop) : Out → Prop
  | .next ρ O => ∃ O₁, O = W :: O₁ ∧ Inv (i + 1) ρ O₁
  | .cont ρ O => ∃ O₁, O = W :: O₁ ∧ Inv (i + 1) ρ O₁
  | .ret d => K (.ret d)

theorem SX.for {x : Str} {px pos : Pos} {iter : Expr} {body : List Stmt} {ds : List D} {K : Out → Prop} {Inv : Nat → Rho → List Own → Prop}
    (hit : IX c ρ O (eval iter c.env) ds.length (Items ds)) (hx : Sto c x) (h0 : Inv 0 ρ O)
    (hbody : ∀ i d ρ' O' W, ds[i]? = some d → Inv i ρ' O' → SB c (put ρ' x d) (W :: O') body (Turn Inv i W K)) (hend : ∀ ρ' O', Inv ds.length ρ' O' → K (.next ρ' O'))
    (hs : ∀ x, foldedSetIterable iter c.env x = pure x := by intro _; rfl) :
    SX c ρ O (exec (.For (.Name x px) iter body [] pos) c.env) K := by
  intro s hb S E
  refine wpAny_For ?_ hs
  refine wpAny_mono (hit s hb S E) (fun xv s₁ h₁ => wpAny_mono h₁ (fun it s₂ ⟨hb₂, W, X, I, hok, hp0, hfp, hwr⟩ => ?_) fun _ _ e => e) fun _ _ e => e
  have S₂ : St c ρ (W 0 :: O) hb₂ s₂ := St.take S (S.step X) (hok 0) hp0 hfp (fun b h => (hwr b h).1) (fun b h => (hwr b h).2)
  refine codeAny_forLoop (fun k s' => ∃ i hb' ρ' O', k = ds.length + 1 - i ∧ i ≤ ds.length ∧ Le hb₂ hb' ∧ Inv i ρ' O' ∧ St c ρ' (W i :: O') hb' s') ?_ (ds.length + 1) ⟨0, hb₂, ρ, O, rfl, Nat.zero_le _, fun _ _ e => e, h0, S₂⟩
  rintro k s' ⟨i, hb', ρ', O', rfl, hi, hle, hinv, S'⟩
  by_cases hlt : i < ds.length
  · refine wpAny_mono (I.step c rfl i s' hb' ρ' _ hlt hle S' _) (fun r s₁ ⟨v, hb₁, hr, hle₁, S₁, d, hd, hv⟩ => ?_) fun _ _ e => e
    subst hr
    dsimp only
    refine wpAny_assign_Name (wpAny_mono (S₁.store hx hv) (fun _ s₂' S₂' => ?_) fun _ _ e => e)
    refine wpAny_mono (hbody i d ρ' O' _ hd hinv _ _ S₂' _) (fun f s₃ ⟨out, hb₃, hK, hle₃, hd₃⟩ => ?_) fun _ _ e => e
    have hle' : Le hb₂ hb₃ := fun b o e => hle₃ b o (hle₁ b o (hle b o e))
    cases out with
    | next ρ'' O'' =>
      obtain ⟨O₁, rfl, hI⟩ := hK
      cases f <;> first | exact hd₃.elim | exact ⟨_, by omega, i + 1, hb₃, ρ'', O₁, rfl, hlt, hle', hI, hd₃⟩
    | cont ρ'' O'' =>
      obtain ⟨O₁, rfl, hI⟩ := hK
      cases f <;> first | exact hd₃.elim | exact ⟨_, by omega, i + 1, hb₃, ρ'', O₁, rfl, hlt, hle', hI, hd₃⟩
    | ret d' =>
      cases f <;> first | exact hd₃.elim | exact ⟨.ret d', hb₃, hK, fun b o e => hle' b o (X.le b o e), hd₃⟩
  · have : i = ds.length := by omega
    subst this
    refine wpAny_mono (I.done c rfl s' hb' ρ' _ hle S' _) (fun r s₁ ⟨hb₁, hr, hle₁, S₁⟩ => ?_) fun _ _ e => e
    subst hr
    refine wpAny_execs_nil ⟨.next ρ' O', hb₁, hend _ _ hinv, fun b o e => hle₁ b o (hle b o (X.le b o e)), S₁⟩
theorem SB.for {x : Str} {px pos : Pos} {iter : Expr} {body rest : List Stmt} {ds : List D} {K : Out → Prop} {Inv : Nat → Rho → List Own → Prop}
    (hit : IX c ρ O (eval iter c.env) ds.length (Items ds)) (hx : Sto c x) (h0 : Inv 0 ρ O)
    (hbody : ∀ i d ρ' O' W, ds[i]? = some d → Inv i ρ' O' → SB c (put ρ' x d) (W :: O') body (Turn Inv i W (Then c rest K))) (hend : ∀ ρ' O', Inv ds.length ρ' O' → SB c ρ' O' rest K)
    (hs : ∀ x, foldedSetIterable iter c.env x = pure x := by intro _; rfl) :
    SB c ρ O (.For (.Name x px) iter body [] pos :: rest) K := SX.seq (SX.for hit hx h0 hbody hend hs)

theorem SB.less {ss : List Stmt} {K : Out → Prop} (h : SB c ρ' O ss K) (hρ : ∀ x d, ρ' x = some d → ρ x = some d) : SB c ρ O ss K := fun s hb S E => h s hb (S.less hρ) E

/-! ### lists of one's own -/
/-- a list taken in hand -/
def lstOwn (a : Addr) (vs : List Value) : Own := accOwn a vs
theorem SB.own {x : Str} {e : Expr} {pos pos' : Pos} {xs : List PyData} {rest : List Stmt} {K : Out → Prop} (h : FX c ρ O (eval e c.env) xs) (hx : Sto c x)
    (hK : ∀ a vs (_ : ∀ hb, VL hb vs (xs.map .py)), SB c (put ρ x (.raw (.ref a))) (lstOwn a vs :: O) rest K) (hxs : ∀ hb vs, VL hb vs (xs.map .py) → ∀ hb', VL hb' vs (xs.map .py))
    (hs : swapsWith e (some (.Name x pos')) pos.line c.env = pure false := by rfl) : SB c ρ O (.Assign [.Name x pos'] e pos :: rest) K := by
  intro s hb S E
  refine wpAny_execs_cons (wpAny_Assign_Name (wpAny_mono (h s hb S E) (fun v s₁ ⟨hb₁, a, vs, hv, X, hn, hna, hl, hr⟩ => ?_) fun _ _ e => e) hs)
  subst hv
  have S₁ : St c ρ (lstOwn a vs :: O) hb₁ s₁ := St.take S (S.step X) (accOwn_ok _ _) hl (fun b h => .inl h) (fun b h => by
    rcases List.mem_cons.mp h with rfl | h
    · exact hn
    · cases h) (fun b h => by
    rcases List.mem_cons.mp h with rfl | h
    · exact hna
    · cases h)
  refine wpAny_mono (S₁.store hx (d := .raw (.ref a)) rfl) (fun _ s₂ S₂ => ?_) fun _ _ e => e
  exact SX.up (hK a vs (hxs _ _ hr)) S₂ X.le E
end
end Mine
end

/-! ## F14 -/
section
namespace Mine

/-! ### instances -/
inductive AttrsAre (h : Heap) : List DictEntry → List (Str × D) → Prop
  | nil : AttrsAre h [] []
  | cons {e es n t d as} : e.key = .str n t → V h e.val d → AttrsAre h es as → AttrsAre h (e :: es) ((n, d) :: as)
theorem AttrsAre.up {h h' : Heap} (k : Le h h') : ∀ {es as}, AttrsAre h es as → AttrsAre h' es as
  | _, _, .nil => .nil
  | _, _, .cons a b c => .cons a (b.up k) (c.up k)
def InstV (C : Addr) (attrs : List (Str × D)) (h : Heap) (v : Value) : Prop :=
  ∃ x dx es n, v = .ref x ∧ h.get? x = some (instObj C dx) ∧ h.get? dx = some (dictOf es n) ∧ AttrsAre h es attrs
theorem InstV.up {C : Addr} {attrs : List (Str × D)} {h h' : Heap} {v : Value} (k : Le h h') (x : InstV C attrs h v) : InstV C attrs h' v :=
  let ⟨a, dx, es, n, e, h1, h2, h3⟩ := x; ⟨a, dx, es, n, e, k _ _ h1, k _ _ h2, h3.up k⟩
abbrev IV (C : Addr) (attrs : List (Str × D)) : D := .sat (InstV C attrs)
theorem V.inst {C : Addr} {attrs : List (Str × D)} {h : Heap} {v : Value} (x : InstV C attrs h v) : V h v (IV C attrs) := .sat x fun _ _ k y => y.up k

theorem AttrsAre.find {h : Heap} {x : Str} {d : D} : ∀ {es : List DictEntry} {as : List (Str × D)}, AttrsAre h es as → as.lookup x = some d → ∃ e, es.find? (fun y => y.key.isStr x) = some e ∧ V h e.val d
  | _, _, .cons (e := e) (n := n) a b c, hl => by
    rw [List.lookup_cons] at hl
    cases hb : x == n with
    | true =>
      rw [hb] at hl; cases hl
      have := beq_iff_eq.mp hb; subst this
      exact ⟨e, by rw [List.find?_cons, a]; simp [Value.isStr], b⟩
    | false =>
      rw [hb] at hl
      obtain ⟨e', h1, h2⟩ := c.find hl
      refine ⟨e', ?_, h2⟩
      rw [List.find?_cons, a]
      have : (Value.isStr (.str n ‹_›) x) = false := by
        simp only [Value.isStr]
        cases q : (n == x) with
        | false => rfl
        | true => have := beq_iff_eq.mp q; subst this; simp at hb
      simp only [this]; exact h1
theorem AttrsAre.findNone {h : Heap} {x : Str} : ∀ {es : List DictEntry} {as : List (Str × D)}, AttrsAre h es as → as.lookup x = none → es.find? (fun y => y.key.isStr x) = none ∧ es.any (·.refKey) = false
  | _, _, .nil, _ => ⟨rfl, rfl⟩
  | _, _, .cons (e := e) (n := n) a b c, hl => by
    rw [List.lookup_cons] at hl
    cases hb : x == n with
    | true => rw [hb] at hl; cases hl
    | false =>
      rw [hb] at hl
      obtain ⟨h1, h2⟩ := c.findNone hl
      have : (Value.isStr e.key x) = false := by
        rw [a]
        simp only [Value.isStr]
        cases q : (n == x) with
        | false => rfl
        | true => have := beq_iff_eq.mp q; subst this; simp at hb
      refine ⟨by rw [List.find?_cons, this]; exact h1, ?_⟩
      rw [List.any_cons, h2]
      simp [DictEntry.refKey, a]
theorem AttrsAre.look {h : Heap} {x : Str} {d : D} {es : List DictEntry} {as : List (Str × D)} {n : Nat} (a : AttrsAre h es as) (hl : as.lookup x = some d) : ∃ v, lookIn x (dictOf es n) = some (some v) ∧ V h v d := by
  obtain ⟨e, h1, h2⟩ := a.find hl
  exact ⟨e.val, by simp [lookIn, h1], h2⟩
theorem AttrsAre.lookNone {h : Heap} {x : Str} {es : List DictEntry} {as : List (Str × D)} {n : Nat} (a : AttrsAre h es as) (hl : as.lookup x = none) : lookIn x (dictOf es n) = some none := by
  obtain ⟨h1, h2⟩ := a.findNone hl
  simp only [lookIn, h1, h2]; rfl

/-- values that an attribute hands over as they are -/
def Handed (d : D) : Prop := ∀ h v, V h v d → handedIn v = true
theorem Handed.int {i : Int} : Handed (.py (.int i)) := fun h v x => by obtain ⟨t, rfl⟩ := x.int_inv; rfl
theorem Handed.bool {i : Bool} : Handed (.py (.bool i)) := fun h v x => by obtain rfl := x.bool_inv; rfl
theorem Handed.none : Handed (.py .none) := fun h v x => by obtain rfl := x.none_inv; rfl
theorem Handed.ref {a : Addr} : Handed (.raw (.ref a)) := fun h v x => by cases x; rfl

/-- what the text says of a class -/
structure ClsOk (C : Addr) : Prop where
  ga : ∀ P, findIn (KG P) (.ref C) "__getattribute__" = some (some (.builtin "object.__getattribute__"))
  gt : ∀ P, findIn (KG P) (.ref C) "__getattr__" = some none
  dict : ∀ P, hasDictIn (KG P) C = true
theorem cls_ham : ClsOk 173 := ⟨fun _ => by rfl, fun _ => by rfl, fun _ => by rfl⟩
theorem cls_lev : ClsOk 214 := ⟨fun _ => by rfl, fun _ => by rfl, fun _ => by rfl⟩
theorem cls_dam : ClsOk 255 := ⟨fun _ => by rfl, fun _ => by rfl, fun _ => by rfl⟩

section
variable {c : Ctx} {ρ ρ' : Rho} {O O' : List Own} {hb hb' : Heap} {s s' : Shared}

theorem InstV.at {C : Addr} {attrs : List (Str × D)} {h h' : Heap} {v : Value} (x : InstV C attrs h v) (k : Le h h') :
    ∃ a dx es n, v = .ref a ∧ W.InstAt h' a (instObj C dx) C (some (dictOf es n)) ∧ AttrsAre h es attrs := by
  obtain ⟨a, dx, es, n, e, h1, h2, h3⟩ := x
  exact ⟨a, dx, es, n, e, ⟨k _ _ h1, rfl, rfl, k _ _ h2⟩, h3⟩

/-- an attribute of one's own -/
theorem getAttr_own {C : Addr} {attrs : List (Str × D)} {name : Str} {d : D} {v : Value} {expr : Bool} {attr : Option Value} (S : St c ρ O hb s) (hv : V hb v (IV C attrs)) (K : ClsOk C) (ha : attrs.lookup name = some d) (hd : Handed d)
    (hf : ∀ P, findIn (KG P) (.ref C) name = some attr) (hg : ∀ P, noGet (KG P) attr = true) {E : Value → Shared → Prop} :
    wpAny (MM c.w) c.A (getAttr v name expr) (fun v s' => ∃ hb', Ext c.l s hb s' hb' ∧ V hb' v d) E s := by
  obtain ⟨a, dx, es, n, rfl, I, A⟩ := hv.out.at S.base.le
  obtain ⟨u, hu, hud⟩ := A.look (n := n) ha
  refine get_value (K := KG c.w.params) (S.base.gd.frag.keeps S.base.le) I (K.ga _) (findObj_own (K.dict _) (hf _) (hg _) hu) (hd _ _ hud) ⟨hb, S.tok _, hud⟩
theorem EX.attr {C : Addr} {attrs : List (Str × D)} {e : Expr} {name : Str} {pos : Pos} {d : D} {attr : Option Value} (h : EX c ρ O e (IV C attrs)) (K : ClsOk C) (ha : attrs.lookup name = some d) (hd : Handed d)
    (hf : ∀ P, findIn (KG P) (.ref C) name = some attr) (hg : ∀ P, noGet (KG P) attr = true) (hbase : attributeBase e name c.env (eval e c.env) = eval e c.env := by rfl) : EX c ρ O (.Attribute e name pos) d := by
  intro s hb S E
  rw [arm_eval_Attribute, hbase]
  refine wpAny_bind (wpx S h fun v s₁ hb₁ x₁ S₁ r₁ => wpAny_bind (wpAny_standAt (wpAny_bind (wpAny_holding (wpAny_mono (getAttr_own S₁ r₁ K ha hd hf hg) (fun u s₂ ⟨hb₂, x₂, r₂⟩ => ?_) fun _ _ e => e)))))
  exact wpAny_bind (wpAny_letTemporaryGo (wpAny_pure ⟨hb₂, x₁.trans S.base x₂, r₂⟩))

/-- the method of a class, and the one whose it is -/
theorem getMethod_fn {C f : Addr} {attrs : List (Str × D)} {name : Str} {v : Value} {pl : Sem Bool} (S : St c ρ O hb s) (hv : V hb v (IV C attrs)) (K : ClsOk C) (ha : attrs.lookup name = none)
    (hf : ∀ P, findIn (KG P) (.ref C) name = some (some (.ref f))) (ht : ∀ P, typeIn (KG P) (.ref f) = some (.type "function")) {E : Value → Shared → Prop} {Q : Value × List Value → Shared → Prop} (hQ : Q (.ref f, [v]) s) :
    wpAny (MM c.w) c.A (getMethod v name pl) Q E s := by
  obtain ⟨a, dx, es, n, rfl, I, A⟩ := hv.out.at S.base.le
  exact method_fn (K := KG c.w.params) (S.base.gd.frag.keeps S.base.le) I (K.ga _) (K.gt _) (hf _) (ht _) (by simp [shadowIn, A.lookNone ha]) hQ
/-- a function kept as an attribute -/
theorem getMethod_own {C : Addr} {attrs : List (Str × D)} {name : Str} {v u : Value} {pl : Sem Bool} (S : St c ρ O hb s) (hv : V hb v (IV C attrs)) (K : ClsOk C) (ha : attrs.lookup name = some (.raw u)) (hd : Handed (.raw u))
    (hf : ∀ P, findIn (KG P) (.ref C) name = some none) {E : Value → Shared → Prop} {Q : Value × List Value → Shared → Prop} (hQ : ∀ s' hb', Ext c.l s hb s' hb' → Q (u, []) s') :
    wpAny (MM c.w) c.A (getMethod v name pl) Q E s := by
  obtain ⟨a, dx, es, n, rfl, I, A⟩ := hv.out.at S.base.le
  refine method_usual (K := KG c.w.params) (S.base.gd.frag.keeps S.base.le) I (K.ga _) (K.gt _) (hf _) rfl ?_
  refine wpAny_mono (getAttr_own (attr := none) S hv K ha hd hf (fun _ => rfl)) (fun v s' ⟨hb', x, r⟩ => ?_) fun _ _ e => e
  cases r
  exact hQ s' hb' x
end
end Mine
end

/-! ## F15 -/
section
namespace Mine

section
variable {c : Ctx} {ρ ρ' : Rho} {O O' : List Own} {hb hb' : Heap} {s s' : Shared}

/-- a call, from the callee on, with what is known in the heap at hand -/
theorem callWith_at {f : Value} {args : List Expr} {kws : List Keyword} {pos : Pos} {n : Nat} {P : Heap → Prop} {ds first : List D} {fv : List Value} {kw : List (Str × D)} {R : Heap → Value → Prop}
    (ha : ArgX c ρ O args kws ds kw) (hf : FnC c.w f n P (first ++ ds) kw R) (hn : n ≤ c.n) (hP : P hb) (Pup : ∀ h h', Le h h' → P h → P h') (hk : Keeps? c.w P f) (S : St c ρ O hb s) (hfv : VL hb fv first) {E : Value → Shared → Prop} :
    wpAny (MM c.w) c.A (callWith pos f fv (backTo pos (starEach args c.env)) (backToKw pos (keywordEach kws c.env))) (fun v s' => ∃ hb', Ext c.l s hb s' hb' ∧ R hb' v) E s := by
  refine callWith_gen (wpx S (ha f pos) fun a s₁ hb₁ x₁ S₁ r₁ => ?_)
  have hp := Pup _ _ x₁.le hP
  obtain ⟨k, L⟩ := hk hb₁ hp
  refine ⟨⟨k, L.keeps S₁.base.le⟩, wpAny_mono (hf c.A c.l s₁ hb₁ (S₁.ok.room.less hn) S₁.base hp ⟨fv ++ a.pos, a.kw⟩ ⟨(hfv.up x₁.le).append r₁.pos, r₁.kw⟩ E) ?_ fun _ _ e => e⟩
  rintro v s₂ ⟨hb₂, x₂, r₂⟩
  exact ⟨hb₂, x₁.trans S.base x₂, r₂⟩

theorem keeps_fn {w : World} {f : Addr} {P : Heap → Prop} (hP : ∀ h, P h → Gd w h) (hf : ∀ P, ∃ oc od fd osl, (KG P).lookup f = some ⟨oc, od, .func fd, osl⟩) : Keeps? w P (.ref f) := by
  intro h hp
  obtain ⟨oc, od, fd, osl, e⟩ := hf w.params
  refine ⟨.frame, fun A Q E s k q => ?_⟩
  unfold keeperOf
  exact wpAny_bind (wpAny_load (k _ _ ((hP h hp).frag _ _ e)) (wpAny_pure q))
theorem IsFn.keeps {w : World} {f : Addr} {fd : FuncData} {body : List Stmt} (F : IsFn f fd body) {P : Heap → Prop} (hP : ∀ h, P h → Gd w h) : Keeps? w P (.ref f) :=
  keeps_fn hP fun P' => let ⟨a, b, e, h⟩ := F.there P'; ⟨a, b, fd, e, h⟩

/-- a method of the class, called with plain arguments -/
theorem TX.meth {C f : Addr} {attrs : List (Str × D)} {o : Expr} {name : Str} {apos pos : Pos} {args : List Expr} {kws : List Keyword} {n : Nat} {ds : List D} {kw : List (Str × D)} {R : Heap → Value → Prop}
    (ho : EX c ρ O o (IV C attrs)) (K : ClsOk C) (hno : attrs.lookup name = none) (hfi : ∀ P, findIn (KG P) (.ref C) name = some (some (.ref f))) (ht : ∀ P, typeIn (KG P) (.ref f) = some (.type "function"))
    (ha : ArgX c ρ O args kws ds kw) (hf : FnC c.w (.ref f) n (Gd c.w) (IV C attrs :: ds) kw R) (hk : Keeps? c.w (Gd c.w) (.ref f)) (hn : n ≤ c.n)
    (hform : methodCallForm (args.length + kws.length) (backTo pos (starEach args c.env)) (backToKw pos (keywordEach kws c.env)) = true := by rfl) (hline : (apos.endLine == pos.line) = true := by rfl)
    (hbase : attributeBase o name c.env (eval o c.env) = eval o c.env := by rfl) : TX c ρ O (eval (.Call (.Attribute o name apos) args kws pos) c.env) R := by
  intro s hb S E
  rw [arm_eval_Call, hbase]
  refine wpAny_bind (wpx S ho fun v s₁ hb₁ x₁ S₁ r₁ => wpAny_bind (wpAny_standAt ?_))
  have hpos : methodCallPos true o c.env apos pos = pure pos := by unfold methodCallPos; simp [hline]
  unfold methodCall
  rw [hform]
  refine wpAny_bind (wpAny_holding (getMethod_fn S₁ r₁ K hno hfi ht ?_))
  refine wpAny_bind (wpAny_of_eq hpos (wpAny_mono (callWith_at (first := [IV C attrs]) ha hf hn S₁.base.gd (fun _ _ k g => g.up k) hk S₁ (.cons r₁ .nil)) (fun v s₂ ⟨hb₂, x₂, r₂⟩ => ⟨hb₂, x₁.trans S.base x₂, r₂⟩) fun _ _ e => e))

/-- a function kept as an attribute, called with plain arguments -/
theorem TX.methOwn {C f : Addr} {attrs : List (Str × D)} {o : Expr} {name : Str} {apos pos : Pos} {args : List Expr} {kws : List Keyword} {n : Nat} {ds : List D} {kw : List (Str × D)} {R : Heap → Value → Prop}
    (ho : EX c ρ O o (IV C attrs)) (K : ClsOk C) (hat : attrs.lookup name = some (.raw (.ref f))) (hfi : ∀ P, findIn (KG P) (.ref C) name = some none)
    (ha : ArgX c ρ O args kws ds kw) (hf : FnC c.w (.ref f) n (Gd c.w) ds kw R) (hk : Keeps? c.w (Gd c.w) (.ref f)) (hn : n ≤ c.n)
    (hform : methodCallForm (args.length + kws.length) (backTo pos (starEach args c.env)) (backToKw pos (keywordEach kws c.env)) = true := by rfl) (hline : (apos.endLine == pos.line) = true := by rfl)
    (hbase : attributeBase o name c.env (eval o c.env) = eval o c.env := by rfl) : TX c ρ O (eval (.Call (.Attribute o name apos) args kws pos) c.env) R := by
  intro s hb S E
  rw [arm_eval_Call, hbase]
  refine wpAny_bind (wpx S ho fun v s₁ hb₁ x₁ S₁ r₁ => wpAny_bind (wpAny_standAt ?_))
  have hpos : methodCallPos true o c.env apos pos = pure pos := by unfold methodCallPos; simp [hline]
  unfold methodCall
  rw [hform]
  refine wpAny_bind (wpAny_holding (getMethod_own S₁ r₁ K hat .ref hfi fun s₂ hb₂ x₂ => ?_))
  have S₂ := S₁.step x₂
  refine wpAny_bind (wpAny_of_eq hpos (wpAny_mono (callWith_at (first := []) ha hf hn S₂.base.gd (fun _ _ k g => g.up k) hk S₂ .nil) (fun v s₃ ⟨hb₃, x₃, r₃⟩ => ⟨hb₃, (x₁.trans S.base x₂).trans S.base x₃, r₃⟩) fun _ _ e => e))

/-- the same with a star: the callee is an attribute -/
theorem TX.methStarOwn {C f : Addr} {attrs : List (Str × D)} {o : Expr} {name : Str} {apos pos : Pos} {args : List Expr} {kws : List Keyword} {n : Nat} {ds : List D} {kw : List (Str × D)} {R : Heap → Value → Prop}
    (ho : EX c ρ O o (IV C attrs)) (K : ClsOk C) (hat : attrs.lookup name = some (.raw (.ref f))) (hfi : ∀ P, findIn (KG P) (.ref C) name = some none)
    (ha : ArgX c ρ O args kws ds kw) (hf : FnC c.w (.ref f) n (Gd c.w) ds kw R) (hk : Keeps? c.w (Gd c.w) (.ref f)) (hn : n ≤ c.n)
    (hform : methodCallForm (args.length + kws.length) (backTo pos (starEach args c.env)) (backToKw pos (keywordEach kws c.env)) = false := by rfl)
    (hbase : attributeBase o name c.env (eval o c.env) = eval o c.env := by rfl) : TX c ρ O (eval (.Call (.Attribute o name apos) args kws pos) c.env) R := by
  intro s hb S E
  rw [arm_eval_Call, hbase]
  refine wpAny_bind (wpx S ho fun v s₁ hb₁ x₁ S₁ r₁ => wpAny_bind (wpAny_standAt ?_))
  have hpos : methodCallPos false o c.env apos pos = pure pos := by unfold methodCallPos; simp
  unfold methodCall
  rw [hform]
  refine wpAny_bind (wpAny_holding ?_)
  show wpAny _ _ (getAttr v name true >>= fun r => pure (r, [])) _ _ _
  refine wpAny_bind (wpAny_mono (getAttr_own (attr := none) S₁ r₁ K hat .ref hfi (fun _ => rfl)) (fun u s₂ ⟨hb₂, x₂, r₂⟩ => wpAny_pure ?_) fun _ _ e => e)
  cases r₂
  have S₂ := S₁.step x₂
  refine wpAny_bind (wpAny_of_eq hpos (wpAny_mono (callWith_at (first := []) ha hf hn S₂.base.gd (fun _ _ k g => g.up k) hk S₂ .nil) (fun v s₃ ⟨hb₃, x₃, r₃⟩ => ⟨hb₃, (x₁.trans S.base x₂).trans S.base x₃, r₃⟩) fun _ _ e => e))

/-- a static method, read off -/
theorem getAttr_static {C p f : Addr} {attrs : List (Str × D)} {name : Str} {v : Value} {expr : Bool} {rest : List Value} (S : St c ρ O hb s) (hv : V hb v (IV C attrs)) (K : ClsOk C)
    (hfo : ∀ P es n, lookIn name (dictOf es n) = some none → findObj (KG P) C (some (dictOf es n)) name = some (.bind (.builtin "staticmethod.__get__") (.ref p))) (hno : attrs.lookup name = none)
    (hp : ∀ P, recIn (KG P) p "staticmethod" = some (.ref f :: rest)) {E : Value → Shared → Prop} :
    wpAny (MM c.w) c.A (getAttr v name expr) (fun v s' => ∃ hb', Ext c.l s hb s' hb' ∧ v = .ref f) E s := by
  obtain ⟨a, dx, es, n, rfl, I, A⟩ := hv.out.at S.base.le
  have X := S.base.gd.frag.keeps S.base.le
  refine get_bind (K := KG c.w.params) X I (K.ga _) (hfo _ es n (A.lookNone hno)) (K.gt _) (wpAny_call (sm_get (K := KG c.w.params) X (hp _) ?_))
  dsimp only
  rw [handedOut_of (v := .ref f) rfl]
  exact wpAny_pure ⟨hb, S.tok _, rfl⟩
theorem EX.static {C p f : Addr} {attrs : List (Str × D)} {e : Expr} {name : Str} {pos : Pos} {rest : List Value} (h : EX c ρ O e (IV C attrs)) (K : ClsOk C)
    (hfo : ∀ P es n, lookIn name (dictOf es n) = some none → findObj (KG P) C (some (dictOf es n)) name = some (.bind (.builtin "staticmethod.__get__") (.ref p))) (hno : attrs.lookup name = none)
    (hp : ∀ P, recIn (KG P) p "staticmethod" = some (.ref f :: rest)) (hbase : attributeBase e name c.env (eval e c.env) = eval e c.env := by rfl) : EX c ρ O (.Attribute e name pos) (.raw (.ref f)) := by
  intro s hb S E
  rw [arm_eval_Attribute, hbase]
  refine wpAny_bind (wpx S h fun v s₁ hb₁ x₁ S₁ r₁ => wpAny_bind (wpAny_standAt (wpAny_bind (wpAny_holding (wpAny_mono (getAttr_static S₁ r₁ K hfo hno hp) (fun u s₂ ⟨hb₂, x₂, r₂⟩ => ?_) fun _ _ e => e)))))
  exact wpAny_bind (wpAny_letTemporaryGo (wpAny_pure ⟨hb₂, x₁.trans S.base x₂, r₂⟩))
/-- a static method, called with a star -/
theorem TX.static {C p f : Addr} {attrs : List (Str × D)} {o : Expr} {name : Str} {apos pos : Pos} {args : List Expr} {kws : List Keyword} {n : Nat} {ds : List D} {kw : List (Str × D)} {R : Heap → Value → Prop} {rest : List Value}
    (ho : EX c ρ O o (IV C attrs)) (K : ClsOk C)
    (hfo : ∀ P es n, lookIn name (dictOf es n) = some none → findObj (KG P) C (some (dictOf es n)) name = some (.bind (.builtin "staticmethod.__get__") (.ref p))) (hno : attrs.lookup name = none)
    (hp : ∀ P, recIn (KG P) p "staticmethod" = some (.ref f :: rest))
    (ha : ArgX c ρ O args kws ds kw) (hf : FnC c.w (.ref f) n (Gd c.w) ds kw R) (hk : Keeps? c.w (Gd c.w) (.ref f)) (hn : n ≤ c.n)
    (hform : methodCallForm (args.length + kws.length) (backTo pos (starEach args c.env)) (backToKw pos (keywordEach kws c.env)) = false := by rfl)
    (hbase : attributeBase o name c.env (eval o c.env) = eval o c.env := by rfl) : TX c ρ O (eval (.Call (.Attribute o name apos) args kws pos) c.env) R := by
  intro s hb S E
  rw [arm_eval_Call, hbase]
  refine wpAny_bind (wpx S ho fun v s₁ hb₁ x₁ S₁ r₁ => wpAny_bind (wpAny_standAt ?_))
  have hpos : methodCallPos false o c.env apos pos = pure pos := by unfold methodCallPos; simp
  unfold methodCall
  rw [hform]
  refine wpAny_bind (wpAny_holding ?_)
  show wpAny _ _ (getAttr v name true >>= fun r => pure (r, [])) _ _ _
  refine wpAny_bind (wpAny_mono (getAttr_static S₁ r₁ K hfo hno hp) (fun u s₂ ⟨hb₂, x₂, r₂⟩ => wpAny_pure ?_) fun _ _ e => e)
  subst r₂
  have S₂ := S₁.step x₂
  refine wpAny_bind (wpAny_of_eq hpos (wpAny_mono (callWith_at (first := []) ha hf hn S₂.base.gd (fun _ _ k g => g.up k) hk S₂ .nil) (fun v s₃ ⟨hb₃, x₃, r₃⟩ => ⟨hb₃, (x₁.trans S.base x₂).trans S.base x₃, r₃⟩) fun _ _ e => e))

/-- a method called with a star: it is bound first -/
theorem TX.methStar {C f : Addr} {attrs : List (Str × D)} {o : Expr} {name : Str} {apos pos : Pos} {args : List Expr} {kws : List Keyword} {n : Nat} {ds : List D} {kw : List (Str × D)} {R : Heap → Value → Prop}
    (ho : EX c ρ O o (IV C attrs)) (K : ClsOk C) (hno : attrs.lookup name = none)
    (hfo : ∀ P es n, lookIn name (dictOf es n) = some none → findObj (KG P) C (some (dictOf es n)) name = some (.bind (.builtin "function.__get__") (.ref f))) (ht : ∀ P, typeIn (KG P) (.ref f) = some (.type "function"))
    (ha : ArgX c ρ O args kws ds kw) (hf : CoC c.w (.ref f) n (Gd c.w) (IV C attrs :: ds) kw R) (hfn : ∀ P, ∃ oc od fd osl, (KG P).lookup f = some ⟨oc, od, .func fd, osl⟩) (hn : n ≤ c.n)
    (hform : methodCallForm (args.length + kws.length) (backTo pos (starEach args c.env)) (backToKw pos (keywordEach kws c.env)) = false := by rfl)
    (hbase : attributeBase o name c.env (eval o c.env) = eval o c.env := by rfl) : TX c ρ O (eval (.Call (.Attribute o name apos) args kws pos) c.env) R := by
  intro s hb S E
  rw [arm_eval_Call, hbase]
  refine wpAny_bind (wpx S ho fun v s₁ hb₁ x₁ S₁ r₁ => wpAny_bind (wpAny_standAt ?_))
  have hpos : methodCallPos false o c.env apos pos = pure pos := by unfold methodCallPos; simp
  unfold methodCall
  rw [hform]
  refine wpAny_bind (wpAny_holding ?_)
  show wpAny _ _ (getAttr v name true >>= fun r => pure (r, [])) _ _ _
  obtain ⟨a, dx, es, n', hva, I, A⟩ := r₁.out.at S₁.base.le
  subst hva
  have X := S₁.base.gd.frag.keeps S₁.base.le
  refine wpAny_bind (get_bind (K := KG c.w.params) X I (K.ga _) (hfo _ es n' (A.lookNone hno)) (K.gt _) (wpAny_call (fn_get (K := KG c.w.params) X (ht _) ?_)))
  dsimp only
  rw [handedOut_of (v := .ref _) rfl]
  refine wpAny_pure (wpAny_pure ?_)
  have x₂ := S₁.base.keeps (keeps_push s₁ (methodObj (.ref f) (.ref a)) (s₁.toks + 1))
  have S₂ := S₁.step x₂
  have hm : (mx hb₁ s₁.heap (s₁.heap.push (methodObj (.ref f) (.ref a)))).get? s₁.heap.objs.size = some (methodObj (.ref f) (.ref a)) := mx_new (fresh_size _) (Heap.get?_push_size _ rfl)
  let P : Heap → Prop := fun h => Gd c.w h ∧ h.get? s₁.heap.objs.size = some (methodObj (.ref f) (.ref a)) ∧ V h (.ref a) (IV C attrs)
  have hfP : FnC c.w (.ref s₁.heap.objs.size) n P ds kw R := by
    refine CoC.fn fun A l s hb hR B hP ar har => method_call (B.le _ _ hP.2.1) (hf A l s hb hR B hP.1 ⟨.ref a :: ar.pos, ar.kw⟩ ⟨.cons hP.2.2 har.pos, har.kw⟩)
  have hkP : Keeps? c.w P (.ref s₁.heap.objs.size) := by
    intro h hp
    obtain ⟨oc, od, fd, osl, e⟩ := hfn c.w.params
    refine ⟨.boundFrame, fun A Q E s k q => ?_⟩
    unfold keeperOf
    refine wpAny_bind (wpAny_load (k _ _ hp.2.1) ?_)
    dsimp only
    rw [if_neg (by decide)]
    show wpAny _ _ (load f >>= _) _ _ _
    exact wpAny_bind (wpAny_load (k _ _ (hp.1.frag _ _ e)) (wpAny_pure q))
  refine wpAny_bind (wpAny_of_eq hpos (wpAny_mono (callWith_at (first := []) ha hfP hn (P := P) ⟨S₂.base.gd, hm, r₁.up x₂.le⟩ (fun _ _ k g => ⟨g.1.up k, k _ _ g.2.1, g.2.2.up k⟩) hkP S₂ .nil) (fun v s₃ ⟨hb₃, x₃, r₃⟩ => ⟨hb₃, (x₁.trans S.base x₂).trans S.base x₃, r₃⟩) fun _ _ e => e))
end
end Mine
end

/-! ## F16 -/
section
namespace Mine

def dictOwn (dx : Addr) (es : List DictEntry) (n : Nat) : Own := ⟨[dx], [dx], fun h => h.get? dx = some (dictOf es n)⟩
theorem dictOwn_ok (dx : Addr) (es : List DictEntry) (n : Nat) : (dictOwn dx es n).Ok :=
  ⟨fun _ h => h, fun h h' hp k => k dx (List.mem_cons_self ..) _ hp, fun h e b hb => by
    rcases List.mem_cons.mp hb with rfl | hb
    · exact ⟨_, e, fun h => by injection h with h; revert h; decide⟩
    · cases hb⟩

theorem AttrsAre.put {h : Heap} {x : Str} {d : D} {hsh : Int} {t : Tok} {v : Value} (hv : V h v d) : ∀ {es : List DictEntry} {as : List (Str × D)}, AttrsAre h es as → as.lookup x = none →
    AttrsAre h (putL x hsh (.str x t) v es) (as ++ [(x, d)]) ∧ (putL x hsh (.str x t) v es).length = es.length + 1
  | _, _, .nil, _ => ⟨.cons rfl hv .nil, rfl⟩
  | _, _, .cons (e := e) (n := n) a b c, hl => by
    rw [List.lookup_cons] at hl
    cases hb : x == n with
    | true => rw [hb] at hl; cases hl
    | false =>
      rw [hb] at hl
      obtain ⟨h1, h2⟩ := c.put hv hl (hsh := hsh) (t := t)
      have : (Value.isStr e.key x) = false := by
        rw [a]
        simp only [Value.isStr]
        cases q : (n == x) with
        | false => rfl
        | true => have := beq_iff_eq.mp q; subst this; simp at hb
      unfold putL
      rw [this]
      exact ⟨.cons a b h1, by simp [h2]⟩

section
variable {prog : Program} {w : World} {A : Around} {s : Shared} {K : Frag} {x dx C : Addr}
/-- object.__setattr__ of a new name in one's own dict -/
theorem osa_new {name : Str} {tk : Tok} {v : Value} {es : List DictEntry} {n : Nat} {R : Result → Shared → Prop} (X : K.In s.heap) (I : W.InstAt s.heap x (instObj C dx) C (some (dictOf es n)))
    (hp : plainOver K C = true) (ht : takerIn K C name = some none) (hh : hasDictIn K C = true) (hl : lookIn name (dictOf es n) = some none) (hz : (putL name (PyData.keyHash w.params name) (.str name s.toks) v es).length ≤ 1000)
    (h : ∀ h', Heap.SameBut dx s.heap h' → h'.get? dx = some (dictOf (putL name (PyData.keyHash w.params name) (.str name s.toks) v es) (putN name es n)) → R (.ok (.ret .none)) { s with heap := h', toks := s.toks + 1 }) :
    codeAny (model prog w) A (.call (.builtin "object.__setattr__") ⟨[.ref x, .str name tk, v], []⟩) R s := by
  refine osa_open X I hp ht fun b => ?_
  have D : s.heap.get? dx = some (dictOf es n) := I.dict
  obtain ⟨cd, hc, hd'⟩ := any_some hh
  have hput := putName_dict name (PyData.keyHash w.params name) (.str name s.toks) v es n
  have D' : (s.heap.update dx (Obj.putName name (PyData.keyHash w.params name) (.str name s.toks) v)).get? dx = some (dictOf (putL name (PyData.keyHash w.params name) (.str name s.toks) v es) (putN name es n)) := by
    rw [← hput]; exact Heap.get?_update_self _ D (by rw [hput]; rfl)
  refine wpAny_bind (wpAny_pure (wpAny_bind (wpAny_bind (wpAny_loadPart I.at_ (wpAny_bind ((looks_clsIn X hc).here ?_))))))
  rw [hd']
  refine wpAny_pure (a := some dx) (wpAny_bind (wpAny_pure (wpAny_bind ?_)))
  unfold nsSet
  refine wpAny_bind (wpAny_bind (wpAny_askSetting (wpAny_pure (wpAny_bind (wpAny_mkText (wpAny_bind (wpAny_loadPart D ?_)))))))
  dsimp only
  have hq : (!es.toArray.any (·.key.isStr name) && es.toArray.any (·.refKey)) = false := by
    have hr : es.any (·.refKey) = false := by
      simp only [lookIn] at hl
      split at hl
      · cases hl
      · split at hl
        · cases hl
        · rename_i z; rwa [Bool.not_eq_true] at z
    simp [← Array.any_toList] at hr ⊢
    intro _; exact hr
  rw [aRefKeyMayBeTheName_at, hq]
  refine wpAny_updatePart D ?_
  refine wpAny_bind (wpAny_lookBehind D' (pastItsLine_dict (by rw [List.size_toArray, sizeLine_eq]; omega)) ?_)
  exact wpAny_pure (h _ (Heap.SameBut.update ..) D')
end

section
variable {c : Ctx} {ρ ρ' : Rho} {O O' : List Own} {hb hb' : Heap} {s s' : Shared}
/-- what the text says of a class whose attributes are set -/
structure SetOk (C : Addr) (name : Str) : Prop where
  sa : ∀ P, findIn (KG P) (.ref C) "__setattr__" = some (some (.builtin "object.__setattr__"))
  po : ∀ P, plainOver (KG P) C = true
  tk : ∀ P, takerIn (KG P) C name = some none
  dict : ∀ P, hasDictIn (KG P) C = true

theorem SB.setattr {C x dx : Addr} {es : List DictEntry} {n : Nat} {attrs : List (Str × D)} {o e : Expr} {name : Str} {pos pos' : Pos} {rest : List Stmt} {d : D} {K : Out → Prop}
    (he : EX c ρ (dictOwn dx es n :: O) e d) (ho : EX c ρ (dictOwn dx es n :: O) o (.raw (.ref x))) (hx : ∀ h, c.pers h → h.get? x = some (instObj C dx)) (Z : SetOk C name)
    (hd : ∀ h v, V h v d → ∀ h', V h' v d) (hA : ∀ h, AttrsAre h es attrs) (hno : attrs.lookup name = none) (hsz : es.length < 900)
    (next : ∀ es' n', (∀ h, AttrsAre h es' (attrs ++ [(name, d)])) → es'.length = es.length + 1 → SB c ρ (dictOwn dx es' n' :: O) rest K)
    (hs : swapsWith e (some (.Attribute o name pos')) pos.line c.env = pure false := by rfl) : SB c ρ (dictOwn dx es n :: O) (.Assign [.Attribute o name pos'] e pos :: rest) K := by
  intro s hb S E
  refine wpAny_execs_cons (plainObj_wpAny_Assign_Attribute (wpx S he fun v s₁ hb₁ x₁ S₁ r₁ => wpx S₁ ho fun u s₂ hb₂ x₂ S₂ r₂ => ?_) hs)
  cases r₂
  obtain ⟨k1, k2, k3, k4⟩ := S₂.own _ (List.mem_cons_self ..)
  have I : W.InstAt s₂.heap x (instObj C dx) C (some (dictOf es n)) := ⟨S₂.base.le _ _ (hx _ S₂.pers), rfl, rfl, k2⟩
  have X := S₂.base.gd.frag.keeps S₂.base.le
  have hput := fun h => (hA h).put (hd hb₁ v r₁ h) hno (hsh := PyData.keyHash c.w.params name) (t := s₂.toks + 1)
  refine set_plain (K := KG c.w.params) X I (Z.sa _) (osa_new (s := { s₂ with toks := s₂.toks + 1 }) (K := KG c.w.params) X I (Z.po _) (Z.tk _) (Z.dict _) ((hA hb).lookNone hno) (by have := (hput hb).2; dsimp only; omega) fun h' hs' hD => ?_)
  dsimp only
  have S₃ : St c ρ (dictOwn dx (putL name (PyData.keyHash c.w.params name) (.str name (s₂.toks + 1)) v es) (putN name es n) :: O) hb₂ { s₂ with heap := h', toks := s₂.toks + 1 + 1 } :=
    S₂.write_own _ (fun b o hb e => hs'.extBut b o (fun h => hb (h ▸ List.mem_cons_self ..)) e) rfl gid (dictOwn_ok _ _ _) hD (fun b h => h) fun b h => .inl h
  exact SX.up (next _ _ (fun h => (hput h).1) (hput hb).2) S₃ (fun b o e => x₂.le b o (x₁.le b o e)) E
end
end Mine
end

/-! ## F17 -/
section
namespace Mine

theorem room_make {n : Nat} {A : Around} {l : List Env} {C : Addr} {rest : List Value} {kw : List (Str × Value)} (R : Room (n + 1) A l) : Room n (A.under (.builtin "type.__call__" ⟨.ref C :: rest, kw⟩)) l := by
  have hw : (Code.builtin "type.__call__" ⟨.ref C :: rest, kw⟩).weight = 1 := by rfl
  have hu : (Code.builtin "type.__call__" ⟨.ref C :: rest, kw⟩).cUnits = 1 := by rfl
  have he : (Code.builtin "type.__call__" ⟨.ref C :: rest, kw⟩).envs = [] := by rfl
  refine ⟨R.han, ?_, ?_, ?_⟩
  · have e : (A.under (.builtin "type.__call__" ⟨.ref C :: rest, kw⟩)).frames = pushEnvs (Code.builtin "type.__call__" ⟨.ref C :: rest, kw⟩).envs A.frames := rfl
    rw [e, he]; exact R.fr
  · have e : (A.under (.builtin "type.__call__" ⟨.ref C :: rest, kw⟩)).depth = A.depth + (Code.builtin "type.__call__" ⟨.ref C :: rest, kw⟩).weight := rfl
    rw [e, hw]; have := R.dep; omega
  · have e : (A.under (.builtin "type.__call__" ⟨.ref C :: rest, kw⟩)).units = A.units + (Code.builtin "type.__call__" ⟨.ref C :: rest, kw⟩).cUnits := rfl
    rw [e, hu]; have := R.un; omega

theorem keeps_cls {w : World} {C : Addr} (h : ∀ P, keepIn (KG P) (.ref C) = true) : Keeps? w (Gd w) (.ref C) := by
  intro hp G
  obtain ⟨k, _, L⟩ := keeps_K (M := MM w) (h w.params) hp G.frag
  exact ⟨k, L⟩

theorem FnC.make {w : World} {C f : Addr} {fd : FuncData} {body : List Stmt} {n : Nat} {ds : List D} {kw bs : List (Str × D)} {attrs : List (Str × D)} (F : IsFn f fd body)
    (M : ∀ P, makesIn (KG P) C = true) (hinit : ∀ P, findIn (KG P) (.ref C) "__init__" = some (some (.ref f))) (ht : ∀ P, typeIn (KG P) (.ref f) = some (.type "function"))
    (hkind : ∀ x, KindOk fd (("self", .raw (.ref x)) :: bs))
    (hbind : ∀ A l s hb x, Base w l hb s → ∀ a, VA hb a ds kw → ∀ E, wpAny (MM w) A (bindArgs fd ⟨.ref x :: a.pos, a.kw⟩) (fun binds s₁ => ∃ hb₁, Ext l s hb s₁ hb₁ ∧ KL hb₁ binds (("self", .raw (.ref x)) :: bs)) E s)
    (hbody : ∀ A l s₀ hb₀ L x dx, SB (fctx w n A l s₀ hb₀ fd L f (fun h => Gd w h ∧ h.get? x = some (instObj C dx))) (rho (("self", .raw (.ref x)) :: bs) ρ0) [dictOwn dx [] 0] body
      (fun o => ∃ ρ es n', o = .next ρ [dictOwn dx es n'] ∧ ∀ h, AttrsAre h es attrs)) :
    FnC w (.ref C) (n + 2) (Gd w) ds kw (InstV C attrs) := by
  refine CoC.fn ?_
  intro A l s hb hR B hP a ha
  obtain ⟨h, g, d, t, os⟩ := s
  have X := hP.frag.keeps B.le
  refine make_core (rest := a.pos) (kw := a.kw) (init := .ref f) (makes_of (M := MM w) X (M w.params)) (looks_findIn X (hinit _)) (fun self => bind_fn X self (ht _)) (.inl rfl) ?_
  have hx0 : h.get? h.objs.size = none := fresh_size h
  have hx1 : h.get? (h.objs.size + 1) = none := fresh_ge (Nat.le_succ _)
  have hsz : (h.push emptyDict).objs.size = h.objs.size + 1 := Heap.size_push ..
  have K : Keeps ⟨h, g, d, t, os⟩ { heap := (h.push emptyDict).push (instObj C h.objs.size), gens := g, drawn := d, toks := t, os := os } :=
    ⟨_, t, rfl, fun _ _ e => Heap.get?_push_of_some _ (Heap.get?_push_of_some _ e)⟩
  have hgx : ((h.push emptyDict).push (instObj C h.objs.size)).get? (h.objs.size + 1) = some (instObj C h.objs.size) := by
    rw [← hsz]; exact Heap.get?_push_size _ rfl
  have hgd : ((h.push emptyDict).push (instObj C h.objs.size)).get? h.objs.size = some (dictOf [] 0) := Heap.get?_push_of_some _ (Heap.get?_push_size _ rfl)
  obtain ⟨X₁, k₁⟩ := (B.same K).add hx1
  have hbn : ∀ b, h.get? b = none → hb.get? b = none := fun b hn => by
    cases e : hb.get? b with
    | none => rfl
    | some o => have := B.le b o e; rw [show (⟨h, g, d, t, os⟩ : Shared).heap.get? b = h.get? b from rfl, hn] at this; cases this
  refine enter F (room_make hR) B X₁ (P := fun h' => Gd w h' ∧ h'.get? (h.objs.size + 1) = some (instObj C h.objs.size)) ⟨hP.up k₁, only_get.mpr ⟨.inr rfl, hgx⟩⟩ (fun _ _ k g => ⟨g.1.up k, k _ _ g.2⟩)
    (O := [dictOwn h.objs.size [] 0]) ?_ (List.pairwise_singleton ..) (fun E => hbind _ _ _ _ _ (X₁.base B) a ⟨ha.pos.up k₁, KL.up k₁ ha.kw⟩ E) (hkind _) (hbody _ _ _ _ · _ _) ?_
  · intro o ho
    rcases List.mem_cons.mp ho with rfl | ho
    · refine ⟨dictOwn_ok _ _ _, hgd, fun b h => .inl h, fun b hb' => ?_⟩
      rcases List.mem_cons.mp hb' with rfl | hb'
      · refine ⟨only_none ?_, hx0⟩
        rintro (⟨o, e⟩ | e)
        · rw [hbn _ hx0] at e; cases e
        · exact absurd e (Nat.ne_of_lt (Nat.lt_succ_self _))
      · cases hb'
    · cases ho
  · rintro L out fl hb' s' ⟨ρ, es, n', rfl, hA⟩ hd
    cases fl <;> first | exact hd.elim | skip
    obtain ⟨k1, k2, k3, k4⟩ := hd.own _ (List.mem_cons_self ..)
    have hx := hd.pers.2
    have E := hd.ext
    obtain ⟨X₂, k₂⟩ := E.add (a := h.objs.size) hx0
    exact ⟨rfl, .ref (h.objs.size + 1), _, rfl, X₂, _, _, _, _, rfl, k₂ _ _ hx, only_get.mpr ⟨.inr rfl, k2⟩, (hA _)⟩
end Mine
end

/-! ## C2 -/
section
namespace Mine

def Rigid (d : D) : Prop := ∀ h v, V h v d → ∀ h', V h' v d
theorem Rigid.int {i : Int} : Rigid (.py (.int i)) := fun h v x h' => by obtain ⟨t, rfl⟩ := x.int_inv; exact V.int
theorem Rigid.bool {i : Bool} : Rigid (.py (.bool i)) := fun h v x h' => by obtain rfl := x.bool_inv; exact V.bool
theorem Rigid.none : Rigid (.py .none) := fun h v x h' => by obtain rfl := x.none_inv; exact V.none
theorem Rigid.raw {u : Value} : Rigid (.raw u) := fun h v x h' => x

section
variable {c : Ctx} {ρ ρ' : Rho} {O O' : List Own} {hb hb' : Heap} {s s' : Shared}
theorem EX.staticOwn {C x dx p f : Addr} {es : List DictEntry} {n : Nat} {attrs : List (Str × D)} {e : Expr} {name : Str} {pos : Pos} {rest : List Value} (h : EX c ρ (dictOwn dx es n :: O) e (.raw (.ref x)))
    (hx : ∀ h, c.pers h → h.get? x = some (instObj C dx)) (K : ClsOk C)
    (hfo : ∀ P es n, lookIn name (dictOf es n) = some Option.none → findObj (KG P) C (some (dictOf es n)) name = some (.bind (.builtin "staticmethod.__get__") (.ref p))) (hA : ∀ h, AttrsAre h es attrs) (hno : attrs.lookup name = Option.none)
    (hp : ∀ P, recIn (KG P) p "staticmethod" = some (.ref f :: rest)) (hbase : attributeBase e name c.env (eval e c.env) = eval e c.env := by rfl) : EX c ρ (dictOwn dx es n :: O) (.Attribute e name pos) (.raw (.ref f)) := by
  intro s hb S E
  rw [arm_eval_Attribute, hbase]
  refine wpAny_bind (wpx S h fun v s₁ hb₁ x₁ S₁ r₁ => wpAny_bind (wpAny_standAt (wpAny_bind (wpAny_holding ?_))))
  cases r₁
  obtain ⟨k1, k2, k3, k4⟩ := S₁.own _ (List.mem_cons_self ..)
  have I : W.InstAt s₁.heap x (instObj C dx) C (some (dictOf es n)) := ⟨S₁.base.le _ _ (hx _ S₁.pers), rfl, rfl, k2⟩
  have X := S₁.base.gd.frag.keeps S₁.base.le
  refine get_bind (K := KG c.w.params) X I (K.ga _) (hfo _ es n ((hA hb).lookNone hno)) (K.gt _) (wpAny_call (sm_get (K := KG c.w.params) X (hp _) ?_))
  dsimp only
  rw [handedOut_of (v := .ref f) rfl]
  refine wpAny_pure (wpAny_bind (wpAny_letTemporaryGo (wpAny_pure ⟨hb₁, ?_, rfl⟩)))
  exact x₁.trans S.base (S₁.tok _)
theorem EX.or_none {e₁ e₂ : Expr} {pos : Pos} {d : D} (h₁ : EX c ρ O e₁ (.py .none)) (h₂ : EX c ρ O e₂ d) : EX c ρ O (.BoolOp .Or [e₁, e₂] pos) d := by
  intro s hb S E
  refine wpAny_Or2 (wpx S h₁ fun v s₁ hb₁ x₁ S₁ r₁ => ?_)
  obtain rfl := r₁.none_inv
  refine wpAny_of_eq (a := false) (by rfl) ?_
  simp only [Bool.false_eq_true, if_false]
  exact wpx S₁ h₂ fun v s₂ hb₂ x₂ S₂ r₂ => ⟨hb₂, x₁.trans S.base x₂, r₂⟩
end

def levA (q : PyData) : List (Str × D) := [("qval", .py q), ("test_func", .raw (.ref 100)), ("external", .py (.bool false))]
def hamA (q : PyData) : List (Str × D) := [("qval", .py q), ("test_func", .raw (.ref 100)), ("truncate", .py (.bool false)), ("external", .py (.bool false))]
def damA (q : PyData) : List (Str × D) := [("qval", .py q), ("test_func", .raw (.ref 100)), ("external", .py (.bool false)), ("restricted", .py (.bool true))]

theorem setOk {C : Addr} {name : Str} (h1 : ∀ P, findIn (KG P) (.ref C) "__setattr__" = some (some (.builtin "object.__setattr__"))) (h2 : ∀ P, plainOver (KG P) C = true) (h3 : ∀ P, takerIn (KG P) C name = some none) (h4 : ∀ P, hasDictIn (KG P) C = true) : SetOk C name := ⟨h1, h2, h3, h4⟩


theorem fo_ident {P : Params} {C : Addr} {es : List DictEntry} {n : Nat} (hC : C = 173 ∨ C = 214 ∨ C = 255) (h : lookIn "_ident" (dictOf es n) = some none) : findObj (KG P) C (some (dictOf es n)) "_ident" = some (.bind (.builtin "staticmethod.__get__") (.ref 102)) := by
  rcases hC with rfl | rfl | rfl <;> exact findObj_fn (by rfl) (by rfl) (by rfl) (by rfl) (by rfl) h

theorem setBy (C : Addr) (name : Str) (h1 : ∀ P, findIn (KG P) (.ref C) "__setattr__" = some (some (.builtin "object.__setattr__")) := by exact fun _ => by rfl) (h2 : ∀ P, plainOver (KG P) C = true := by exact fun _ => by rfl)
    (h3 : ∀ P, takerIn (KG P) C name = some none := by exact fun _ => by rfl) (h4 : ∀ P, hasDictIn (KG P) C = true := by exact fun _ => by rfl) : SetOk C name := ⟨h1, h2, h3, h4⟩

/-- the keyword arguments of the makers -/
theorem kw2 {h : Heap} {a : Args} {n₁ n₂ : Str} {d₁ d₂ : D} (x : VA h a [] [(n₁, d₁), (n₂, d₂)]) : ∃ v u, a = ⟨[], [(n₁, v), (n₂, u)]⟩ ∧ V h v d₁ ∧ V h u d₂ := by
  obtain ⟨pos, kw⟩ := a
  obtain ⟨h1, h2⟩ := x
  cases h1
  cases h2 with
  | cons p1 h2 => cases h2 with
    | cons p2 h2 => cases h2; exact ⟨_, _, rfl, p1, p2⟩
theorem kw1 {h : Heap} {a : Args} {n₁ : Str} {d₁ : D} (x : VA h a [] [(n₁, d₁)]) : ∃ v, a = ⟨[], [(n₁, v)]⟩ ∧ V h v d₁ := by
  obtain ⟨pos, kw⟩ := a
  obtain ⟨h1, h2⟩ := x
  cases h1
  cases h2 with
  | cons p1 h2 => cases h2; exact ⟨_, rfl, p1⟩

section
variable {w : World} {n : Nat} {A : Around} {l : List Env} {s₀ : Shared} {hb₀ : Heap} {L x dx : Addr}
theorem b_lev_init {q : PyData} (hq : Rigid (.py q)) : SB (fctx w n A l s₀ hb₀ fd_190 L 190 (fun h => Gd w h ∧ h.get? x = some (instObj 214 dx))) (rho (("self", .raw (.ref x)) :: [("qval", .py q), ("test_func", .py .none), ("external", .py (.bool false))]) ρ0) [dictOwn dx [] 0] (dBody d_lev_init)
      (fun o => ∃ ρ es n', o = .next ρ [dictOwn dx es n'] ∧ ∀ h, AttrsAre h es (levA q)) := by
  refine SB.setattr (EX.name (d := .py q) rfl) (EX.name rfl) (fun h p => p.2) (setBy ..) hq (attrs := []) (fun _ => .nil) rfl (by decide) fun es n' hA hl => ?_
  refine SB.setattr (EX.or_none (EX.name rfl) (EX.staticOwn (p := 102) (f := 100) (EX.name rfl) (fun h p => p.2) cls_lev (fun _ _ _ h => fo_ident (by decide) h) hA rfl (fun _ => by rfl))) (EX.name rfl) (fun h p => p.2) (setBy ..) Rigid.raw hA rfl (by rw [hl]; decide) fun es n' hA hl' => ?_
  refine SB.setattr (EX.name (d := .py (.bool false)) rfl) (EX.name rfl) (fun h p => p.2) (setBy ..) Rigid.bool hA rfl (by rw [hl', hl]; decide) fun es n' hA hl'' => ?_
  exact SB.nil ⟨_, _, _, rfl, hA⟩
theorem b_dam_init {q : PyData} (hq : Rigid (.py q)) : SB (fctx w n A l s₀ hb₀ fd_231 L 231 (fun h => Gd w h ∧ h.get? x = some (instObj 255 dx))) (rho (("self", .raw (.ref x)) :: [("qval", .py q), ("test_func", .py .none), ("external", .py (.bool false)), ("restricted", .py (.bool true))]) ρ0) [dictOwn dx [] 0] (dBody d_dam_init)
      (fun o => ∃ ρ es n', o = .next ρ [dictOwn dx es n'] ∧ ∀ h, AttrsAre h es (damA q)) := by
  refine SB.setattr (EX.name (d := .py q) rfl) (EX.name rfl) (fun h p => p.2) (setBy ..) hq (attrs := []) (fun _ => .nil) rfl (by decide) fun es n' hA hl => ?_
  refine SB.setattr (EX.or_none (EX.name rfl) (EX.staticOwn (p := 102) (f := 100) (EX.name rfl) (fun h p => p.2) cls_dam (fun _ _ _ h => fo_ident (by decide) h) hA rfl (fun _ => by rfl))) (EX.name rfl) (fun h p => p.2) (setBy ..) Rigid.raw hA rfl (by rw [hl]; decide) fun es n' hA hl' => ?_
  refine SB.setattr (EX.name (d := .py (.bool false)) rfl) (EX.name rfl) (fun h p => p.2) (setBy ..) Rigid.bool hA rfl (by rw [hl', hl]; decide) fun es n' hA hl'' => ?_
  refine SB.setattr (EX.name (d := .py (.bool true)) rfl) (EX.name rfl) (fun h p => p.2) (setBy ..) Rigid.bool hA rfl (by rw [hl'', hl', hl]; decide) fun es n' hA hl'' => ?_
  exact SB.nil ⟨_, _, _, rfl, hA⟩
theorem b_ham_init {q : PyData} (hq : Rigid (.py q)) : SB (fctx w n A l s₀ hb₀ fd_165 L 165 (fun h => Gd w h ∧ h.get? x = some (instObj 173 dx))) (rho (("self", .raw (.ref x)) :: [("qval", .py q), ("test_func", .py .none), ("truncate", .py (.bool false)), ("external", .py (.bool false))]) ρ0) [dictOwn dx [] 0] (dBody d_ham_init)
      (fun o => ∃ ρ es n', o = .next ρ [dictOwn dx es n'] ∧ ∀ h, AttrsAre h es (hamA q)) := by
  refine SB.setattr (EX.name (d := .py q) rfl) (EX.name rfl) (fun h p => p.2) (setBy ..) hq (attrs := []) (fun _ => .nil) rfl (by decide) fun es n' hA hl => ?_
  refine SB.setattr (EX.or_none (EX.name rfl) (EX.staticOwn (p := 102) (f := 100) (EX.name rfl) (fun h p => p.2) cls_ham (fun _ _ _ h => fo_ident (by decide) h) hA rfl (fun _ => by rfl))) (EX.name rfl) (fun h p => p.2) (setBy ..) Rigid.raw hA rfl (by rw [hl]; decide) fun es n' hA hl' => ?_
  refine SB.setattr (EX.name (d := .py (.bool false)) rfl) (EX.name rfl) (fun h p => p.2) (setBy ..) Rigid.bool hA rfl (by rw [hl', hl]; decide) fun es n' hA hl'' => ?_
  refine SB.setattr (EX.name (d := .py (.bool false)) rfl) (EX.name rfl) (fun h p => p.2) (setBy ..) Rigid.bool hA rfl (by rw [hl'', hl', hl]; decide) fun es n' hA hl'' => ?_
  exact SB.nil ⟨_, _, _, rfl, hA⟩
end

section
variable {w : World} {n : Nat} {q : PyData}
theorem m_lev (hq : Rigid (.py q)) : FnC w (.ref 214) (n + 2) (Gd w) [] [("qval", .py q), ("external", .py (.bool false))] (InstV 214 (levA q)) := by
  refine FnC.make isFn_190 (fun _ => by rfl) (fun _ => by rfl) (fun _ => by rfl) (bs := [("qval", .py q), ("test_func", .py .none), ("external", .py (.bool false))]) (fun x y hy => ?_) (fun A l s hb x B a ha E => ?_) fun _ _ _ _ _ _ _ => b_lev_init hq
  · simp only [List.mem_cons, List.not_mem_nil, or_false] at hy
    rcases hy with rfl | rfl | rfl | rfl <;> exact .inl (by rfl)
  · obtain ⟨v, u, rfl, p1, p2⟩ := kw2 ha
    have hT : s.heap.get? 183 = some (o_183 w.params) := B.le _ _ (B.gd.frag _ _ rfl)
    exact BindsTo.of_defaults (fd := fd_190) (T := 183) rfl hT rfl rfl rfl _ _ _ _ ⟨hb, .refl B, .cons rfl (.cons p1 (.cons V.none (.cons p2 .nil)))⟩
theorem m_lev1 : FnC w (.ref 214) (n + 2) (Gd w) [] [("external", .py (.bool false))] (InstV 214 (levA (.int 1))) := by
  refine FnC.make isFn_190 (fun _ => by rfl) (fun _ => by rfl) (fun _ => by rfl) (bs := [("qval", .py (.int 1)), ("test_func", .py .none), ("external", .py (.bool false))]) (fun x y hy => ?_) (fun A l s hb x B a ha E => ?_) fun _ _ _ _ _ _ _ => b_lev_init .int
  · simp only [List.mem_cons, List.not_mem_nil, or_false] at hy
    rcases hy with rfl | rfl | rfl | rfl <;> exact .inl (by rfl)
  · obtain ⟨v, rfl, p1⟩ := kw1 ha
    have hT : s.heap.get? 183 = some (o_183 w.params) := B.le _ _ (B.gd.frag _ _ rfl)
    exact BindsTo.of_defaults (fd := fd_190) (T := 183) rfl hT rfl rfl rfl _ _ _ _ ⟨hb, .refl B, .cons rfl (.cons V.int (.cons V.none (.cons p1 .nil)))⟩
theorem m_dam (hq : Rigid (.py q)) : FnC w (.ref 255) (n + 2) (Gd w) [] [("qval", .py q), ("external", .py (.bool false))] (InstV 255 (damA q)) := by
  refine FnC.make isFn_231 (fun _ => by rfl) (fun _ => by rfl) (fun _ => by rfl) (bs := [("qval", .py q), ("test_func", .py .none), ("external", .py (.bool false)), ("restricted", .py (.bool true))]) (fun x y hy => ?_) (fun A l s hb x B a ha E => ?_) fun _ _ _ _ _ _ _ => b_dam_init hq
  · simp only [List.mem_cons, List.not_mem_nil, or_false] at hy
    rcases hy with rfl | rfl | rfl | rfl | rfl <;> exact .inl (by rfl)
  · obtain ⟨v, u, rfl, p1, p2⟩ := kw2 ha
    have hT : s.heap.get? 224 = some (o_224 w.params) := B.le _ _ (B.gd.frag _ _ rfl)
    exact BindsTo.of_defaults (fd := fd_231) (T := 224) rfl hT rfl rfl rfl _ _ _ _ ⟨hb, .refl B, .cons rfl (.cons p1 (.cons V.none (.cons p2 (.cons V.bool .nil))))⟩
theorem m_dam1 : FnC w (.ref 255) (n + 2) (Gd w) [] [("external", .py (.bool false))] (InstV 255 (damA (.int 1))) := by
  refine FnC.make isFn_231 (fun _ => by rfl) (fun _ => by rfl) (fun _ => by rfl) (bs := [("qval", .py (.int 1)), ("test_func", .py .none), ("external", .py (.bool false)), ("restricted", .py (.bool true))]) (fun x y hy => ?_) (fun A l s hb x B a ha E => ?_) fun _ _ _ _ _ _ _ => b_dam_init .int
  · simp only [List.mem_cons, List.not_mem_nil, or_false] at hy
    rcases hy with rfl | rfl | rfl | rfl | rfl <;> exact .inl (by rfl)
  · obtain ⟨v, rfl, p1⟩ := kw1 ha
    have hT : s.heap.get? 224 = some (o_224 w.params) := B.le _ _ (B.gd.frag _ _ rfl)
    exact BindsTo.of_defaults (fd := fd_231) (T := 224) rfl hT rfl rfl rfl _ _ _ _ ⟨hb, .refl B, .cons rfl (.cons V.int (.cons V.none (.cons p1 (.cons V.bool .nil))))⟩
theorem m_ham (hq : Rigid (.py q)) : FnC w (.ref 173) (n + 2) (Gd w) [] [("qval", .py q), ("external", .py (.bool false))] (InstV 173 (hamA q)) := by
  refine FnC.make isFn_165 (fun _ => by rfl) (fun _ => by rfl) (fun _ => by rfl) (bs := [("qval", .py q), ("test_func", .py .none), ("truncate", .py (.bool false)), ("external", .py (.bool false))]) (fun x y hy => ?_) (fun A l s hb x B a ha E => ?_) fun _ _ _ _ _ _ _ => b_ham_init hq
  · simp only [List.mem_cons, List.not_mem_nil, or_false] at hy
    rcases hy with rfl | rfl | rfl | rfl | rfl <;> exact .inl (by rfl)
  · obtain ⟨v, u, rfl, p1, p2⟩ := kw2 ha
    have hT : s.heap.get? 158 = some (o_158 w.params) := B.le _ _ (B.gd.frag _ _ rfl)
    exact BindsTo.of_defaults (fd := fd_165) (T := 158) rfl hT rfl rfl rfl _ _ _ _ ⟨hb, .refl B, .cons rfl (.cons p1 (.cons V.none (.cons V.bool (.cons p2 .nil))))⟩
theorem m_ham1 : FnC w (.ref 173) (n + 2) (Gd w) [] [("external", .py (.bool false))] (InstV 173 (hamA (.int 1))) := by
  refine FnC.make isFn_165 (fun _ => by rfl) (fun _ => by rfl) (fun _ => by rfl) (bs := [("qval", .py (.int 1)), ("test_func", .py .none), ("truncate", .py (.bool false)), ("external", .py (.bool false))]) (fun x y hy => ?_) (fun A l s hb x B a ha E => ?_) fun _ _ _ _ _ _ _ => b_ham_init .int
  · simp only [List.mem_cons, List.not_mem_nil, or_false] at hy
    rcases hy with rfl | rfl | rfl | rfl | rfl <;> exact .inl (by rfl)
  · obtain ⟨v, rfl, p1⟩ := kw1 ha
    have hT : s.heap.get? 158 = some (o_158 w.params) := B.le _ _ (B.gd.frag _ _ rfl)
    exact BindsTo.of_defaults (fd := fd_165) (T := 158) rfl hT rfl rfl rfl _ _ _ _ ⟨hb, .refl B, .cons rfl (.cons V.int (.cons V.none (.cons V.bool (.cons p1 .nil))))⟩
end
end Mine
end

/-! ## F18 -/
section
namespace Mine

/-! ### zip, of as many as there are -/
structure Dr where
  it : Addr
  fp : List Addr
  ds : List D
  P : Nat → Value → Prop
  S : Nat → Heap → Prop
/-- no exception is handled, or a bare one is -/
def Calm (A : Around) (h : Heap) : Prop :=
  A.handled = none ∨ ∃ e o vs, A.handled = some (.ref e) ∧ h.get? e = some o ∧ o.cls = .type "TypeError" ∧ o.data = .fields vs ∧ vs[2]? = some .none
structure DrOk (hbI : Heap) (d : Dr) : Prop where
  item : ∀ (A : Around) (w : World) (i : Nat) (s : Shared) (Q : Value → Shared → Prop) (E : Value → Shared → Prop), i < d.ds.length → d.S i s.heap →
    (∀ x h' tk, d.P i x → d.S (i + 1) h' → Heap.SameBut d.it s.heap h' → Q x { s with heap := h', toks := tk }) → wpAny (MM w) A (Builtin.SmallTypes.nextOf (.ref d.it)) Q E s
  done : ∀ (A : Around) (w : World) (s : Shared) (Q : Value → Shared → Prop) (E : Value → Shared → Prop), Calm A s.heap → d.S d.ds.length s.heap →
    (∀ h' e tk, Heap.ExtBut d.it s.heap h' → (∃ o, h'.get? e = some o ∧ o.cls = .type "StopIteration") → E (.ref e) { s with heap := h', toks := tk }) → wpAny (MM w) A (Builtin.SmallTypes.nextOf (.ref d.it)) Q E s
  own : d.it ∈ d.fp
  frame : ∀ i h h', d.S i h → (∀ b ∈ d.fp, ∀ o, h.get? b = some o → h'.get? b = some o) → d.S i h'
  res : ∀ i v, i < d.ds.length → d.P i v → Items d.ds i hbI v
  live : ∀ i h, d.S i h → ∃ o, h.get? d.it = some o ∧ o.cls ≠ .type "code" ∧ o.cls ≠ .type "zip" ∧ o.cls ≠ .type "tuple" ∧ o.cls ≠ .type "StopIteration" ∧ o.cls ≠ .type "TypeError"

def zObj (TI TO : Addr) (f0 f1 : Value) : Obj := { cls := .type "zip", dict := none, data := .fields #[f0, f1, .bool false, .ref TI, .ref TO], slots := #[] }
def tObj (vs : Array Value) (n : Nat) : Obj := { cls := .type "tuple", data := .seq vs n }

/-- apart -/
structure Zap (dl : List Dr) (z TI TO : Addr) : Prop where
  tiz : TI ≠ z
  toz : TO ≠ z
  tito : TI ≠ TO
  out : ∀ d ∈ dl, z ∉ d.fp ∧ TO ∉ d.fp ∧ d.it ≠ TI ∧ d.it ∈ d.fp
  apart : dl.Pairwise fun x y => x.it ∉ y.fp ∧ y.it ∉ x.fp

structure Zs (dl : List Dr) (z TI TO : Addr) (i : Nat) (h : Heap) : Prop where
  zo : ∃ f0 b, h.get? z = some (zObj TI TO f0 (.bool b)) ∧ (f0 = .none ∨ ∃ a t, f0 = .int a t)
  ti : h.get? TI = some (tObj (dl.map fun d => Value.ref d.it).toArray 0)
  to : ∃ kept n, kept.size = dl.length ∧ h.get? TO = some (tObj kept n)
  st : ∀ d ∈ dl, d.S i h

section
variable {w : World} {A : Around} {E : Value → Shared → Prop} {s : Shared}

theorem wpAny_loadIfAlive' {M : Model} {a : Addr} {Q : Option Obj → Shared → Prop} (h : Q (s.heap.get? a) s) : wpAny M A (loadIfAlive a) Q E s := by
  intro Γ p _
  unfold loadIfAlive
  simpa using h

/-- which of the two ways -/
theorem zip_free {z TI TO : Addr} {f0 : Value} {b : Bool} {Q : Bool → Shared → Prop} (hz : s.heap.get? z = some (zObj TI TO f0 (.bool b))) (hf : f0 = .none ∨ ∃ a t, f0 = .int a t)
    (h1 : Q true s) (h2 : ∀ h', h'.get? z = some (zObj TI TO f0 (.bool true)) → Heap.SameBut z s.heap h' → Q false { s with heap := h' }) :
    wpAny (MM w) A (Builtin.SmallTypes.ownedTupleIsFree (.ref z)) Q E s := by
  unfold Builtin.SmallTypes.ownedTupleIsFree
  refine wpAny_bind (wpAny_field hz rfl (x := f0) rfl ?_)
  rcases hf with rfl | ⟨a, t, rfl⟩
  · exact wpAny_pure h1
  · dsimp only
    refine wpAny_bind (wpAny_loadIfAlive' ?_)
    cases hg : s.heap.get? a.toNat with
    | none => simp only [Option.isNone_none, if_true]; exact wpAny_pure h1
    | some o =>
      simp only [Option.isNone_some, Bool.false_eq_true, if_false]
      refine wpAny_bind (wpAny_field hz rfl (x := .bool b) rfl ?_)
      cases b with
      | true => exact wpAny_pure (h2 s.heap hz (.refl ..))
      | false =>
        rw [if_pos (by decide)]
        refine wpAny_bind (wpAny_setField_rec hz (by simp) fun h' hz' hs' => wpAny_pure (h2 h' ?_ hs'))
        exact hz'


theorem zip_next_item {dl : List Dr} {z TI TO : Addr} {i : Nat} {hbI : Heap} {Q : Value → Shared → Prop} (hok : ∀ d ∈ dl, DrOk hbI d) (hap : Zap dl z TI TO) (hne : dl ≠ [])
    (hst : Zs dl z TI TO i s.heap) (hlt : ∀ d ∈ dl, i < d.ds.length) (hsz : dl.length ≤ 1000)
    (hQ : ∀ T vs h' tk, s.heap.get? T = none → h'.get? T = some (tObj vs 0) → vs.size = dl.length → (∀ (k : Nat) (d : Dr), dl[k]? = some d → ∃ v, vs[k]? = some v ∧ d.P i v) → Zs dl z TI TO (i + 1) h' →
      (∀ b o, b ≠ z → b ≠ TO → (∀ d ∈ dl, b ≠ d.it) → s.heap.get? b = some o → h'.get? b = some o) → Q (.ref T) { s with heap := h', toks := tk }) :
    wpAny (MM w) A (Builtin.«zip.__next__» ⟨[.ref z], []⟩) (fun fin s' => ∃ v, fin = .done (.ret v) ∧ Q v s') E s := by
  obtain ⟨⟨f0, b, hz, hf⟩, hTI, ⟨kept, nk, hks, hTO⟩, hS⟩ := hst
  have hfr : ∀ d' ∈ dl, ∀ j h h', d'.S j h → (∀ b ∈ d'.fp, ∀ o, h.get? b = some o → h'.get? b = some o) → d'.S j h' := fun d' hd' j h h' hs k => (hok d' hd').frame j h h' hs k
  have happ : ∀ (pre suf : List Dr) (d : Dr), dl = pre ++ d :: suf → (∀ d' ∈ pre, d.it ∉ d'.fp) ∧ (∀ d' ∈ suf, d.it ∉ d'.fp) := fun pre suf d e => by
    have := hap.apart
    rw [e] at this
    obtain ⟨_, h2, h3⟩ := List.pairwise_append.mp this
    obtain ⟨h4, _⟩ := List.pairwise_cons.mp h2
    exact ⟨fun d' hd' => (h3 d' hd' d (List.mem_cons_self ..)).2, fun d' hd' => (h4 d' hd').1⟩
  have hall : ∀ d ∈ dl, d.it ≠ z ∧ d.it ≠ TO ∧ d.it ≠ TI ∧ d.it ∈ d.fp := fun d hd => by
    obtain ⟨h1, h2, h3, h4⟩ := hap.out d hd
    exact ⟨fun e => h1 (e ▸ h4), fun e => h2 (e ▸ h4), h3, h4⟩
  have htup : ∀ (h : Heap) (T : Addr) (vs : Array Value) (n k : Nat) (x : Value), h.get? T = some (tObj vs n) → ∃ n', (h.update T (Obj.mapSeq (·.setIfInBounds k x))).get? T = some (tObj (vs.setIfInBounds k x) n') := fun h T vs n k x e =>
    ⟨n, by rw [Heap.get?_update_self _ e rfl]; simp [Obj.mapSeq, tObj]⟩
  -- the walk over the iterators, the tuple of one's own used again
  have wayA : ∀ (s₁ : Shared) (h₀ : Heap) (tk₀ : Nat), s₁ = { s with heap := h₀, toks := tk₀ } → h₀.get? z = some (zObj TI TO .ellipsis (.bool b)) → Heap.SameBut z s.heap h₀ →
      ∀ (R : Option Fin × PUnit → Shared → Prop) (f : Value × Nat → Option Fin × PUnit → Sem (ForInStep (Option Fin × PUnit))),
      (∀ it k r s' (Q' : ForInStep (Option Fin × PUnit) → Shared → Prop), wpAny (MM w) A (Builtin.SmallTypes.nextOf it) (fun x s₂ => wpAny (MM w) A (seqItems? (.ref TO)) (fun q s₃ => ∃ kp, q = some kp ∧ wpAny (MM w) A (updateSeq TO (·.setIfInBounds k x)) (fun _ s₄ => Q' (.yield (none, ())) s₄) E s₃) E s₂)
        (fun e s₂ => wpAny (MM w) A (setField (.ref z) 0 .none) (fun _ s₃ => E e s₃) E s₂) s' → wpAny (MM w) A (f (it, k) r) Q' E s') →
      (∀ kept' n' h' tk, h'.get? z = some (zObj TI TO .ellipsis (.bool b)) → h'.get? TO = some (tObj kept' n') → kept'.size = dl.length → (∀ (k : Nat) (d : Dr), dl[k]? = some d → ∃ v, kept'[k]? = some v ∧ d.P i v) → (∀ d ∈ dl, d.S (i + 1) h') →
        h'.objs.size = s.heap.objs.size → (∀ b o, b ≠ z → b ≠ TO → (∀ d ∈ dl, b ≠ d.it) → s.heap.get? b = some o → h'.get? b = some o) → R (none, ()) { s with heap := h', toks := tk }) →
      wpAny (MM w) A (forIn (List.map (fun d => Value.ref d.it) dl).zipIdx (none, ()) f) R E s₁ := by
    rintro s₁ h₀ tk₀ rfl hz₀ hs₀ R f hfe hR
    refine wpAny_forIn_list f (fun rest r s' => r = (none, ()) ∧ ∃ pre suf kept' n' h' tk, dl = pre ++ suf ∧ rest = (suf.map fun d => Value.ref d.it).zipIdx pre.length ∧ s' = { s with heap := h', toks := tk } ∧
      h'.get? z = some (zObj TI TO .ellipsis (.bool b)) ∧ h'.get? TO = some (tObj kept' n') ∧ kept'.size = dl.length ∧ (∀ (k : Nat) (d : Dr), pre[k]? = some d → ∃ v, kept'[k]? = some v ∧ d.P i v) ∧
      (∀ d ∈ pre, d.S (i + 1) h') ∧ (∀ d ∈ suf, d.S i h') ∧ h'.objs.size = s.heap.objs.size ∧ (∀ b o, b ≠ z → b ≠ TO → (∀ d ∈ dl, b ≠ d.it) → s.heap.get? b = some o → h'.get? b = some o)) R ?_ ?_ _ _
      ⟨rfl, [], dl, kept, nk, h₀, tk₀, rfl, rfl, rfl, hz₀, hs₀.extBut _ _ hap.toz hTO, hks, (fun k d e => by simp at e), (fun d hd => by cases hd), (fun d hd => hfr d hd i _ _ (hS d hd) fun b hb o e => hs₀.extBut b o (fun q => (hap.out d hd).1 (q ▸ hb)) e), hs₀.1, fun b o h1 _ _ e => hs₀.extBut b o h1 e⟩
    · rintro ⟨x, k⟩ rest r s' ⟨rfl, pre, suf, kept', n', h', tk, hdl, hrest, rfl, hz', hTO', hks', hpre, hSp, hSs, hsz', hkp⟩
      cases suf with
      | nil => simp at hrest
      | cons d suf =>
        simp only [List.map_cons, List.zipIdx_cons, List.cons.injEq, Prod.mk.injEq] at hrest
        obtain ⟨⟨rfl, rfl⟩, hrest⟩ := hrest
        have hd : d ∈ dl := hdl ▸ List.mem_append_right _ (List.mem_cons_self ..)
        obtain ⟨a1, a2, a3, a4⟩ := hall d hd
        obtain ⟨b1, b2⟩ := happ pre suf d hdl
        refine hfe _ _ _ _ _ ((hok d hd).item A w i _ _ _ (hlt d hd) (hSs d (List.mem_cons_self ..)) fun v h₂ tk₂ hP hS₂ hs₂ => ?_)
        have hz₂ : h₂.get? z = some (zObj TI TO .ellipsis (.bool b)) := hs₂.extBut _ _ (Ne.symm a1) hz'
        have hTO₂ : h₂.get? TO = some (tObj kept' n') := hs₂.extBut _ _ (Ne.symm a2) hTO'
        refine wpAny_seqItems hTO₂ rfl ⟨_, rfl, ?_⟩
        refine wpAny_updateSeq hTO₂ rfl (hz := by rw [sizeLine_eq]; omega) (_hz' := by rw [sizeLine_eq]; simp; omega) ?_
        obtain ⟨n₃, hTO₃⟩ := htup h₂ TO kept' n' pre.length v hTO₂
        have hs₃ : Heap.SameBut TO h₂ (h₂.update TO (Obj.mapSeq (·.setIfInBounds pre.length v))) := Heap.SameBut.update ..
        refine ⟨rfl, pre ++ [d], suf, _, n₃, _, tk₂, by simp [hdl], by simpa using hrest, rfl, hs₃.extBut _ _ (Ne.symm hap.toz) hz₂, hTO₃, by simpa using hks', ?_, ?_, ?_, by rw [hs₃.1, hs₂.1]; exact hsz', ?_⟩
        · intro k e he
          rcases Nat.lt_trichotomy k pre.length with q | q | q
          · rw [List.getElem?_append_left q] at he
            obtain ⟨v', h1, h2⟩ := hpre k e he
            exact ⟨v', by rw [Array.getElem?_setIfInBounds_ne (Nat.ne_of_gt q)]; exact h1, h2⟩
          · subst q
            simp at he; subst he
            have hl : pre.length < kept'.size := by rw [hks', hdl]; simp
            exact ⟨v, by simp [hl], hP⟩
          · have : (pre ++ [d])[k]? = none := List.getElem?_eq_none (by simp; omega)
            rw [this] at he; cases he
        · intro e he
          have hedl : e ∈ dl := by
            rw [hdl]
            rcases List.mem_append.mp he with he | he
            · exact List.mem_append_left _ he
            · simp at he; subst he; exact List.mem_append_right _ (List.mem_cons_self ..)
          refine hfr e hedl _ h₂ _ ?_ fun b hb o q => hs₃.extBut b o (fun q => (hap.out e hedl).2.1 (q ▸ hb)) q
          rcases List.mem_append.mp he with he | he
          · exact hfr e hedl _ h' _ (hSp e he) fun b hb o q => hs₂.extBut b o (fun q => b1 e he (q ▸ hb)) q
          · simp at he; subst he; exact hS₂
        · intro e he
          have hedl : e ∈ dl := hdl ▸ List.mem_append_right _ (List.mem_cons_of_mem _ he)
          refine hfr e hedl _ h₂ _ ?_ fun b hb o q => hs₃.extBut b o (fun q => (hap.out e hedl).2.1 (q ▸ hb)) q
          exact hfr e hedl _ h' _ (hSs e (List.mem_cons_of_mem _ he)) fun b hb o q => hs₂.extBut b o (fun q => b2 e he (q ▸ hb)) q
        · exact fun b o h1 h2 h3 e => hs₃.extBut b o h2 (hs₂.extBut b o (h3 d hd) (hkp b o h1 h2 h3 e))
    · rintro r s' ⟨rfl, pre, suf, kept', n', h', tk, hdl, hrest, rfl, hz', hTO', hks', hpre, hSp, hSs, hsz', hkp⟩
      have hsuf : suf = [] := by
        cases suf with
        | nil => rfl
        | cons d suf => simp at hrest
      subst hsuf
      rw [List.append_nil] at hdl
      subst hdl
      exact hR kept' n' h' tk hz' hTO' hks' hpre hSp hsz' hkp
  have wayB : ∀ (s₁ : Shared) (h₀ : Heap) (tk₀ : Nat) (c0 : Value), s₁ = { s with heap := h₀, toks := tk₀ } → h₀.get? z = some (zObj TI TO c0 (.bool true)) → Heap.SameBut z s.heap h₀ →
      ∀ (R : Option Fin × Array Value → Shared → Prop) (f : Value → Option Fin × Array Value → Sem (ForInStep (Option Fin × Array Value))),
      (∀ it r s' (Q' : ForInStep (Option Fin × Array Value) → Shared → Prop), wpAny (MM w) A (Builtin.SmallTypes.nextOf it) (fun x s₂ => Q' (.yield (none, r.2.push x)) s₂) E s' → wpAny (MM w) A (f it r) Q' E s') →
      (∀ vs h' tk, h'.get? z = some (zObj TI TO c0 (.bool true)) → h'.get? TO = some (tObj kept nk) → vs.size = dl.length → (∀ (k : Nat) (d : Dr), dl[k]? = some d → ∃ v, vs[k]? = some v ∧ d.P i v) → (∀ d ∈ dl, d.S (i + 1) h') →
        (∀ b o, b ≠ z → b ≠ TO → (∀ d ∈ dl, b ≠ d.it) → s.heap.get? b = some o → h'.get? b = some o) → R (none, vs) { s with heap := h', toks := tk }) →
      wpAny (MM w) A (forIn (List.map (fun d => Value.ref d.it) dl).toArray (none, #[]) f) R E s₁ := by
    rintro s₁ h₀ tk₀ c0 rfl hz₀ hs₀ R f hfe hR
    rw [List.forIn_toArray]
    refine wpAny_forIn_list f (fun rest r s' => ∃ pre suf vs h' tk, r = (none, vs) ∧ dl = pre ++ suf ∧ rest = (suf.map fun d => Value.ref d.it) ∧ s' = { s with heap := h', toks := tk } ∧
      h'.get? z = some (zObj TI TO c0 (.bool true)) ∧ h'.get? TO = some (tObj kept nk) ∧ vs.size = pre.length ∧ (∀ (k : Nat) (d : Dr), pre[k]? = some d → ∃ v, vs[k]? = some v ∧ d.P i v) ∧
      (∀ d ∈ pre, d.S (i + 1) h') ∧ (∀ d ∈ suf, d.S i h') ∧ (∀ b o, b ≠ z → b ≠ TO → (∀ d ∈ dl, b ≠ d.it) → s.heap.get? b = some o → h'.get? b = some o)) R ?_ ?_ _ _
      ⟨[], dl, #[], h₀, tk₀, rfl, rfl, rfl, rfl, hz₀, hs₀.extBut _ _ hap.toz hTO, rfl, (fun k d e => by simp at e), (fun d hd => by cases hd), (fun d hd => hfr d hd i _ _ (hS d hd) fun b hb o e => hs₀.extBut b o (fun q => (hap.out d hd).1 (q ▸ hb)) e), fun b o h1 _ _ e => hs₀.extBut b o h1 e⟩
    · rintro x rest r s' ⟨pre, suf, vs, h', tk, rfl, hdl, hrest, rfl, hz', hTO', hks', hpre, hSp, hSs, hkp⟩
      cases suf with
      | nil => simp at hrest
      | cons d suf =>
        simp only [List.map_cons, List.cons.injEq] at hrest
        obtain ⟨rfl, hrest⟩ := hrest
        have hd : d ∈ dl := hdl ▸ List.mem_append_right _ (List.mem_cons_self ..)
        obtain ⟨a1, a2, a3, a4⟩ := hall d hd
        obtain ⟨b1, b2⟩ := happ pre suf d hdl
        refine hfe _ _ _ _ ((hok d hd).item A w i _ _ _ (hlt d hd) (hSs d (List.mem_cons_self ..)) fun v h₂ tk₂ hP hS₂ hs₂ => ?_)
        refine ⟨pre ++ [d], suf, vs.push v, h₂, tk₂, rfl, by simp [hdl], hrest, rfl, hs₂.extBut _ _ (Ne.symm a1) hz', hs₂.extBut _ _ (Ne.symm a2) hTO', by simp [hks'], ?_, ?_, ?_, ?_⟩
        · intro k e he
          rcases Nat.lt_trichotomy k pre.length with q | q | q
          · rw [List.getElem?_append_left q] at he
            obtain ⟨v', h1, h2⟩ := hpre k e he
            exact ⟨v', by rw [Array.getElem?_push, if_neg (by omega)]; exact h1, h2⟩
          · subst q
            simp at he; subst he
            exact ⟨v, by rw [← hks']; simp, hP⟩
          · have : (pre ++ [d])[k]? = none := List.getElem?_eq_none (by simp; omega)
            rw [this] at he; cases he
        · intro e he
          rcases List.mem_append.mp he with he | he
          · exact hfr e (hdl ▸ List.mem_append_left _ he) _ h' _ (hSp e he) fun b hb o q => hs₂.extBut b o (fun q => b1 e he (q ▸ hb)) q
          · simp at he; subst he; exact hS₂
        · intro e he
          exact hfr e (hdl ▸ List.mem_append_right _ (List.mem_cons_of_mem _ he)) _ h' _ (hSs e (List.mem_cons_of_mem _ he)) fun b hb o q => hs₂.extBut b o (fun q => b2 e he (q ▸ hb)) q
        · exact fun b o h1 h2 h3 e => hs₂.extBut b o (h3 d hd) (hkp b o h1 h2 h3 e)
    · rintro r s' ⟨pre, suf, vs, h', tk, rfl, hdl, hrest, rfl, hz', hTO', hks', hpre, hSp, hSs, hkp⟩
      have hsuf : suf = [] := by
        cases suf with
        | nil => rfl
        | cons d suf => simp at hrest
      subst hsuf
      rw [List.append_nil] at hdl
      subst hdl
      exact hR vs h' tk hz' hTO' hks' hpre hSp hkp
  have hnone : ∀ (h' : Heap), (∀ b o, b ≠ z → b ≠ TO → (∀ d ∈ dl, b ≠ d.it) → s.heap.get? b = some o → h'.get? b = some o) → (∃ o, h'.get? z = some o) → (∃ o, h'.get? TO = some o) → (∀ d ∈ dl, ∃ o, h'.get? d.it = some o) → s.heap.get? h'.objs.size = none := by
    intro h' hk h1 h2 h3
    cases e : s.heap.get? h'.objs.size with
    | none => rfl
    | some o =>
      exfalso
      have hf := fresh_size h'
      by_cases q1 : h'.objs.size = z
      · obtain ⟨o', e'⟩ := h1; rw [q1] at hf; rw [hf] at e'; cases e'
      · by_cases q2 : h'.objs.size = TO
        · obtain ⟨o', e'⟩ := h2; rw [q2] at hf; rw [hf] at e'; cases e'
        · by_cases q3 : ∀ d ∈ dl, h'.objs.size ≠ d.it
          · have := hk _ o q1 q2 q3 e; rw [hf] at this; cases this
          · simp only [ne_eq, Classical.not_forall, Decidable.not_not] at q3
            obtain ⟨d, hd, q⟩ := q3
            obtain ⟨o', e'⟩ := h3 d hd; rw [q] at hf; rw [hf] at e'; cases e'
  have hlive : ∀ j h', (∀ d ∈ dl, d.S j h') → ∀ d ∈ dl, ∃ o, h'.get? d.it = some o := fun j h' hs d hd => let ⟨o, e, _⟩ := (hok d hd).live j h' (hs d hd); ⟨o, e⟩
  have hTIk : ∀ h' : Heap, (∀ b o, b ≠ z → b ≠ TO → (∀ d ∈ dl, b ≠ d.it) → s.heap.get? b = some o → h'.get? b = some o) → h'.get? TI = some (tObj (dl.map fun d => Value.ref d.it).toArray 0) := fun h' hk =>
    hk TI _ hap.tiz hap.tito (fun d hd q => (hap.out d hd).2.2.1 q.symm) hTI
  show wpAny _ _ (field (.ref z) 2 >>= _) _ _ _
  refine wpAny_bind (wpAny_field hz rfl (x := .bool false) rfl ?_)
  show wpAny _ _ (field (.ref z) 3 >>= _) _ _ _
  refine wpAny_bind (wpAny_field hz rfl (x := .ref TI) rfl ?_)
  refine wpAny_bind (wpAny_seqItems hTI rfl ?_)
  have hemp : ((dl.map fun d => Value.ref d.it).toArray.isEmpty) = false := by
    cases dl with
    | nil => exact absurd rfl hne
    | cons => simp
  dsimp only
  simp only [hemp, Bool.false_eq_true, if_false]
  refine wpAny_bind (zip_free hz hf ?_ fun h' hz' hs' => ?_)
  · simp only [if_true]
    refine wpAny_bind (wpAny_rule ?_)
    refine wpAny_bind (wpAny_field hz rfl (x := .ref TO) rfl ?_)
    dsimp only
    refine wpAny_bind (wpAny_setField_rec hz (by simp) fun h₁ hz₁ hs₁ => ?_)
    refine wpAny_bind (wayA _ h₁ s.toks rfl hz₁ hs₁ _ _ ?_ ?_)
    · intro it k r s' Q' h
      refine wpAny_bind (wpAny_onRaise ?_)
      show wpAny _ _ (Builtin.SmallTypes.nextOf it >>= fun v => pure (some v)) _ _ _
      refine wpAny_bind (wpAny_mono h (fun x s₂ h₂ => wpAny_pure ?_) fun _ _ e => e)
      dsimp only
      refine wpAny_bind (wpAny_mono h₂ (fun q s₃ ⟨kp, hq, h₃⟩ => ?_) fun _ _ e => e)
      subst hq
      dsimp only
      exact wpAny_bind (wpAny_mono h₃ (fun _ s₄ h₄ => wpAny_bind (wpAny_letGo (wpAny_pure h₄))) fun _ _ e => e)
    · intro kept' n' h' tk hz' hTO' hks' hvs hS' hsz' hkp
      dsimp only
      refine wpAny_bind (wpAny_seqItems hTO' rfl ?_)
      dsimp only
      refine wpAny_bind (wpAny_newTuple (hsz := by rw [sizeLine_eq, Array.length_toList]; omega) ?_)
      have hz₆ : (h'.push { cls := .type "tuple", data := .seq kept'.toList.toArray }).get? z = some (zObj TI TO .ellipsis (.bool b)) := Heap.get?_push_of_some _ hz'
      have hzlt : z ≠ h'.objs.size := Nat.ne_of_lt (Heap.lt_size hz')
      refine wpAny_bind ?_
      unfold Builtin.SmallTypes.ownedTupleHandOut
      dsimp only
      refine wpAny_bind (wpAny_setField_rec hz₆ (by simp) fun h₇ hz₇ hs₇ => ?_)
      refine wpAny_setField_rec hz₇ (by simp) fun h₈ hz₈ hs₈ => ?_
      have up : ∀ c o, c ≠ z → h'.get? c = some o → h₈.get? c = some o := fun c o c1 e => hs₈.extBut _ _ c1 (hs₇.extBut _ _ c1 (Heap.get?_push_of_some _ e))
      refine wpAny_pure ⟨_, rfl, hQ h'.objs.size kept' h₈ tk (hnone h' hkp ⟨_, hz'⟩ ⟨_, hTO'⟩ (hlive _ _ hS')) ?_ hks' hvs ⟨⟨_, false, hz₈, .inr ⟨_, _, rfl⟩⟩, up _ _ hap.tiz (hTIk h' hkp), ⟨kept', n', hks', up _ _ hap.toz hTO'⟩, fun d hd => hfr d hd _ h' _ (hS' d hd) fun b hb o e => up b o (fun q => (hap.out d hd).1 (q ▸ hb)) e⟩
        fun b o h1 h2 h3 e => up b o h1 (hkp b o h1 h2 h3 e)⟩
      exact hs₈.extBut _ _ (Ne.symm hzlt) (hs₇.extBut _ _ (Ne.symm hzlt) (Heap.get?_push_size _ rfl))
  · simp only [Bool.false_eq_true, if_false]
    refine wpAny_bind (wayB _ h' s.toks f0 rfl hz' hs' _ _ ?_ ?_)
    · intro it r s' Q' h
      refine wpAny_bind (wpAny_holding ?_)
      show wpAny _ _ (Builtin.SmallTypes.nextOf it >>= fun v => pure (some v)) _ _ _
      exact wpAny_bind (wpAny_mono h (fun x s₂ h₂ => wpAny_pure (wpAny_pure h₂)) fun _ _ e => e)
    · intro vs h₂ tk hz₂ hTO₂ hvs hvP hS₂ hkp
      dsimp only
      refine wpAny_bind (wpAny_newTuple (hsz := by rw [sizeLine_eq, Array.length_toList]; omega) ?_)
      have up : ∀ c o, h₂.get? c = some o → (h₂.push { cls := .type "tuple", data := .seq vs.toList.toArray }).get? c = some o := fun c o e => Heap.get?_push_of_some _ e
      refine wpAny_pure ⟨_, rfl, hQ h₂.objs.size vs _ tk (hnone h₂ hkp ⟨_, hz₂⟩ ⟨_, hTO₂⟩ (hlive _ _ hS₂)) (Heap.get?_push_size _ rfl) hvs hvP ⟨⟨_, true, up _ _ hz₂, hf⟩, up _ _ (hTIk h₂ hkp), ⟨kept, nk, hks, up _ _ hTO₂⟩, fun d hd => hfr d hd _ h₂ _ (hS₂ d hd) fun b hb o e => up b o e⟩
        fun b o h1 h2 h3 e => up b o (hkp b o h1 h2 h3 e)⟩
end
end Mine
end

/-! ## F19 -/
section
namespace Mine

section
variable {w : World} {A : Around} {E : Value → Shared → Prop} {s : Shared}

theorem zip_next_end {dl : List Dr} {z TI TO : Addr} {i : Nat} {hbI : Heap} {Q : PySem.Fin → Shared → Prop} (hA : Calm A s.heap) (hok : ∀ d ∈ dl, DrOk hbI d) (hap : Zap dl z TI TO) (hne : dl ≠ [])
    (hst : Zs dl z TI TO i s.heap) (hge : ∀ d ∈ dl, i ≤ d.ds.length) (hex : ∃ d ∈ dl, d.ds.length = i) (hsz : dl.length ≤ 1000)
    (hE : ∀ e h' tk, (∃ o, h'.get? e = some o ∧ o.cls = .type "StopIteration") →
      (∀ b o, b ≠ z → b ≠ TO → (∀ d ∈ dl, b ≠ d.it) → s.heap.get? b = some o → h'.get? b = some o) → E (.ref e) { s with heap := h', toks := tk }) :
    wpAny (MM w) A (Builtin.«zip.__next__» ⟨[.ref z], []⟩) Q E s := by
  obtain ⟨⟨f0, b, hz, hf⟩, hTI, ⟨kept, nk, hks, hTO⟩, hS⟩ := hst
  have hfr : ∀ d' ∈ dl, ∀ j h h', d'.S j h → (∀ b ∈ d'.fp, ∀ o, h.get? b = some o → h'.get? b = some o) → d'.S j h' := fun d' hd' j h h' hs k => (hok d' hd').frame j h h' hs k
  have happ : ∀ (pre suf : List Dr) (d : Dr), dl = pre ++ d :: suf → (∀ d' ∈ suf, d.it ∉ d'.fp) := fun pre suf d e => by
    have := hap.apart
    rw [e] at this
    obtain ⟨_, h2, h3⟩ := List.pairwise_append.mp this
    obtain ⟨h4, _⟩ := List.pairwise_cons.mp h2
    exact fun d' hd' => (h4 d' hd').1
  have hall : ∀ d ∈ dl, d.it ≠ z ∧ d.it ≠ TO ∧ d.it ≠ TI ∧ d.it ∈ d.fp := fun d hd => by
    obtain ⟨h1, h2, h3, h4⟩ := hap.out d hd
    exact ⟨fun e => h1 (e ▸ h4), fun e => h2 (e ▸ h4), h3, h4⟩
  have htup : ∀ (h : Heap) (T : Addr) (vs : Array Value) (n k : Nat) (x : Value), h.get? T = some (tObj vs n) → ∃ n', (h.update T (Obj.mapSeq (·.setIfInBounds k x))).get? T = some (tObj (vs.setIfInBounds k x) n') := fun h T vs n k x e =>
    ⟨n, by rw [Heap.get?_update_self _ e rfl]; simp [Obj.mapSeq, tObj]⟩
  have calm_kept : ∀ h' : Heap, (∀ b o, b ≠ z → b ≠ TO → (∀ d ∈ dl, b ≠ d.it) → s.heap.get? b = some o → h'.get? b = some o) → Calm A h' := fun h' hk => by
    rcases hA with hA | ⟨e, o, vs, a1, a2, a3, a4, a5⟩
    · exact .inl hA
    · refine .inr ⟨e, o, vs, a1, hk e o ?_ ?_ ?_ a2, a3, a4, a5⟩
      · rintro rfl; rw [hz] at a2; cases a2; simp [zObj] at a3
      · rintro rfl; rw [hTO] at a2; cases a2; simp [tObj] at a3
      · rintro d hd rfl
        obtain ⟨o', e', _, _, _, _, h5⟩ := (hok d hd).live i _ (hS d hd)
        rw [e'] at a2; cases a2; exact h5 a3
  let I : Value → List Dr → Shared → Prop := fun c0 suf s' => ∃ pre kept' n' b' h' tk, dl = pre ++ suf ∧ s' = { s with heap := h', toks := tk } ∧ h'.get? z = some (zObj TI TO c0 (.bool b')) ∧ h'.get? TO = some (tObj kept' n') ∧ kept'.size = dl.length ∧
      (∃ d ∈ suf, d.ds.length = i) ∧ (∀ d ∈ suf, d.S i h') ∧ (∀ b o, b ≠ z → b ≠ TO → (∀ d ∈ dl, b ≠ d.it) → s.heap.get? b = some o → h'.get? b = some o)
  have one : ∀ (c0 : Value) (d : Dr) (suf : List Dr) (s₁ : Shared), I c0 (d :: suf) s₁ →
      ∀ (Q' : Value → Shared → Prop) (E' : Value → Shared → Prop), (∀ v s₂, I c0 suf s₂ → Q' v s₂) →
      (∀ e h' tk, (∃ o, h'.get? e = some o ∧ o.cls = .type "StopIteration") → (∃ b', h'.get? z = some (zObj TI TO c0 (.bool b'))) → (∀ b o, b ≠ z → b ≠ TO → (∀ d ∈ dl, b ≠ d.it) → s.heap.get? b = some o → h'.get? b = some o) → E' (.ref e) { s with heap := h', toks := tk }) →
      wpAny (MM w) A (Builtin.SmallTypes.nextOf (.ref d.it)) Q' E' s₁ := by
    rintro c0 d suf s₁ ⟨pre, kept', n', b', h', tk, hdl, rfl, hz', hTO', hks', hexs, hSs, hkp⟩ Q' E' hQ' hE'
    have hd : d ∈ dl := hdl ▸ List.mem_append_right _ (List.mem_cons_self ..)
    obtain ⟨a1, a2, a3, a4⟩ := hall d hd
    rcases Nat.lt_or_ge i d.ds.length with hlt | hgt
    · refine (hok d hd).item A w i _ _ _ hlt (hSs d (List.mem_cons_self ..)) fun v h₂ tk₂ hP hS₂ hs₂ => hQ' _ _ ?_
      refine ⟨pre ++ [d], kept', n', b', h₂, tk₂, by simp [hdl], rfl, hs₂.extBut _ _ (Ne.symm a1) hz', hs₂.extBut _ _ (Ne.symm a2) hTO', hks', ?_, ?_, fun b o h1 h2 h3 e => hs₂.extBut b o (h3 d hd) (hkp b o h1 h2 h3 e)⟩
      · obtain ⟨e, he, hl⟩ := hexs
        rcases List.mem_cons.mp he with rfl | he
        · omega
        · exact ⟨e, he, hl⟩
      · intro e he
        exact hfr e (hdl ▸ List.mem_append_right _ (List.mem_cons_of_mem _ he)) _ h' _ (hSs e (List.mem_cons_of_mem _ he)) fun b hb o q => hs₂.extBut b o (fun q => happ pre suf d hdl e he (q ▸ hb)) q
    · have hl : d.ds.length = i := by have := hge d hd; omega
      refine (hok d hd).done A w _ _ _ (calm_kept h' hkp) (by rw [hl]; exact hSs d (List.mem_cons_self ..)) fun h₂ e tk₂ hs₂ he => ?_
      exact hE' e h₂ tk₂ he ⟨b', hs₂ _ _ (Ne.symm a1) hz'⟩ fun b o h1 h2 h3 q => hs₂ b o (h3 d hd) (hkp b o h1 h2 h3 q)
  have stop : ∀ (c0 : Value) (s₁ : Shared), ¬ I c0 [] s₁ := by
    rintro c0 s₁ ⟨pre, kept', n', b', h', tk, hdl, rfl, hz', hTO', hks', ⟨d, hd, _⟩, _⟩
    cases hd
  show wpAny _ _ (field (.ref z) 2 >>= _) _ _ _
  refine wpAny_bind (wpAny_field hz rfl (x := .bool false) rfl ?_)
  show wpAny _ _ (field (.ref z) 3 >>= _) _ _ _
  refine wpAny_bind (wpAny_field hz rfl (x := .ref TI) rfl ?_)
  refine wpAny_bind (wpAny_seqItems hTI rfl ?_)
  have hemp : ((dl.map fun d => Value.ref d.it).toArray.isEmpty) = false := by
    cases dl with
    | nil => exact absurd rfl hne
    | cons => simp
  dsimp only
  simp only [hemp, Bool.false_eq_true, if_false]
  refine wpAny_bind (zip_free hz hf ?_ fun h' hz' hs' => ?_)
  · simp only [if_true]
    refine wpAny_bind (wpAny_rule ?_)
    refine wpAny_bind (wpAny_field hz rfl (x := .ref TO) rfl ?_)
    dsimp only
    refine wpAny_bind (wpAny_setField_rec hz (by simp) fun h₁ hz₁ hs₁ => ?_)
    refine wpAny_bind (wpAny_forIn_list _ (fun rest r s' => r = (none, ()) ∧ ∃ suf k, rest = (suf.map fun d => Value.ref d.it).zipIdx k ∧ I .ellipsis suf s') _ ?_ ?_ _ _
      ⟨rfl, dl, 0, rfl, [], kept, nk, b, h₁, s.toks, rfl, rfl, hz₁, hs₁.extBut _ _ hap.toz hTO, hks, hex, (fun d hd => hfr d hd i _ _ (hS d hd) fun b hb o e => hs₁.extBut b o (fun q => (hap.out d hd).1 (q ▸ hb)) e), fun b o h1 _ _ e => hs₁.extBut b o h1 e⟩)
    · rintro ⟨x, k⟩ rest r s' ⟨rfl, suf, k', hrest, hI⟩
      cases suf with
      | nil => simp at hrest
      | cons d suf =>
        simp only [List.map_cons, List.zipIdx_cons, List.cons.injEq, Prod.mk.injEq] at hrest
        obtain ⟨⟨rfl, rfl⟩, hrest⟩ := hrest
        refine wpAny_bind (wpAny_onRaise ?_)
        show wpAny _ _ (Builtin.SmallTypes.nextOf _ >>= fun v => pure (some v)) _ _ _
        refine wpAny_bind (one _ d suf s' hI _ _ (fun v s₂ hI₂ => wpAny_pure ?_) fun e h' tk he hze hkp => ?_)
        · dsimp only
          obtain ⟨pre, kept', n', b', h', tk, hdl, rfl, hz', hTO', hks', hexs, hSs, hkp⟩ := hI₂
          refine wpAny_bind (wpAny_seqItems hTO' rfl ?_)
          dsimp only
          refine wpAny_bind (wpAny_updateSeq hTO' rfl (hz := by rw [sizeLine_eq]; omega) (_hz' := by rw [sizeLine_eq]; simp; omega) (wpAny_bind (wpAny_letGo (wpAny_pure ?_))))
          obtain ⟨n₃, hTO₃⟩ := htup h' TO kept' n' k v hTO'
          have hs₃ : Heap.SameBut TO h' (h'.update TO (Obj.mapSeq (·.setIfInBounds k v))) := Heap.SameBut.update ..
          refine ⟨rfl, suf, k + 1, hrest, pre, _, n₃, b', _, tk, hdl, rfl, hs₃.extBut _ _ (Ne.symm hap.toz) hz', hTO₃, by simpa using hks', hexs, fun d hd => ?_, fun b o h1 h2 h3 e => hs₃.extBut b o h2 (hkp b o h1 h2 h3 e)⟩
          have hdm : d ∈ dl := hdl ▸ List.mem_append_right _ hd
          exact hfr d hdm _ h' _ (hSs d hd) fun b hb o e => hs₃.extBut b o (fun q => (hap.out d hdm).2.1 (q ▸ hb)) e
        · obtain ⟨b', hze⟩ := hze
          obtain ⟨oe, hoe, hce⟩ := he
          have hez : e ≠ z := fun x => by subst x; rw [hze] at hoe; cases hoe; simp [zObj] at hce
          refine wpAny_setField_rec hze (by simp) fun h₃ _ hs₃ => hE e h₃ tk ⟨oe, hs₃.extBut _ _ hez hoe, hce⟩ fun b o h1 h2 h3 q => hs₃.extBut b o h1 (hkp b o h1 h2 h3 q)
    · rintro r s' ⟨rfl, suf, k, hrest, hI⟩
      have : suf = [] := by
        cases suf with
        | nil => rfl
        | cons => simp at hrest
      subst this
      exact absurd hI (stop _ _)
  · simp only [Bool.false_eq_true, if_false]
    rw [List.forIn_toArray]
    refine wpAny_bind (wpAny_forIn_list _ (fun rest r s' => ∃ suf vs, r = (none, vs) ∧ rest = (suf.map fun d => Value.ref d.it) ∧ I f0 suf s') _ ?_ ?_ _ _
      ⟨dl, #[], rfl, rfl, [], kept, nk, true, h', s.toks, rfl, rfl, hz', hs'.extBut _ _ hap.toz hTO, hks, hex, (fun d hd => hfr d hd i _ _ (hS d hd) fun b hb o e => hs'.extBut b o (fun q => (hap.out d hd).1 (q ▸ hb)) e), fun b o h1 _ _ e => hs'.extBut b o h1 e⟩)
    · rintro x rest r s' ⟨suf, vs, rfl, hrest, hI⟩
      cases suf with
      | nil => simp at hrest
      | cons d suf =>
        simp only [List.map_cons, List.cons.injEq] at hrest
        obtain ⟨rfl, hrest⟩ := hrest
        refine wpAny_bind (wpAny_holding ?_)
        show wpAny _ _ (Builtin.SmallTypes.nextOf _ >>= fun v => pure (some v)) _ _ _
        refine wpAny_bind (one _ d suf s' hI _ _ (fun v s₂ hI₂ => wpAny_pure ?_) fun e h' tk he hze hkp => hE e h' tk he hkp)
        exact wpAny_pure ⟨suf, _, rfl, hrest, hI₂⟩
    · rintro r s' ⟨suf, vs, rfl, hrest, hI⟩
      have : suf = [] := by
        cases suf with
        | nil => rfl
        | cons => simp at hrest
      subst this
      exact absurd hI (stop _ _)
end
end Mine
end

/-! ## F20 -/
section
namespace Mine

/-- a list or tuple of things of any kind -/
def SeqV (T : String) (ds : List D) (h : Heap) (v : Value) : Prop := ∃ a o vs n, v = .ref a ∧ h.get? a = some o ∧ o.cls = .type T ∧ o.data = .seq vs n ∧ VL h vs.toList ds
theorem SeqV.up {T : String} {ds : List D} {h h' : Heap} {v : Value} (k : Le h h') (x : SeqV T ds h v) : SeqV T ds h' v :=
  let ⟨a, o, vs, n, e, h1, h2, h3, h4⟩ := x; ⟨a, o, vs, n, e, k _ _ h1, h2, h3, h4.up k⟩
theorem SeqV.of_list {xs : List PyData} {h : Heap} {v : Value} (x : V h v (.py (.list xs))) : SeqV "list" (xs.map .py) h v := x.list_inv
theorem SeqV.of_tuple {xs : List PyData} {h : Heap} {v : Value} (x : V h v (.py (.tuple xs))) : SeqV "tuple" (xs.map .py) h v := x.tuple_inv
theorem SeqV.to_tuple {xs : List PyData} {h : Heap} {v : Value} (x : SeqV "tuple" (xs.map .py) h v) : V h v (.py (.tuple xs)) := by
  obtain ⟨a, o, vs, n, rfl, h1, h2, h3, h4⟩ := x; exact .mkTuple h1 h2 h3 h4
theorem SeqV.to_list {xs : List PyData} {h : Heap} {v : Value} (x : SeqV "list" (xs.map .py) h v) : V h v (.py (.list xs)) := by
  obtain ⟨a, o, vs, n, rfl, h1, h2, h3, h4⟩ := x; exact .mkList h1 h2 h3 h4
abbrev LV (ds : List D) : D := .sat (SeqV "list" ds)
abbrev TV (ds : List D) : D := .sat (SeqV "tuple" ds)
theorem V.seq {T : String} {h : Heap} {v : Value} {ds : List D} (x : SeqV T ds h v) : V h v (.sat (SeqV T ds)) := .sat x fun _ _ k y => y.up k

/-! ### the end, with an exception under way or none -/
section
variable {w : World} {A : Around} {E : Value → Shared → Prop} {s : Shared}
theorem entry_unchain : entryFor table "proto.unchain" = some Builtin.«proto.unchain» := entryFor_of_tree (by kernel_rfl)
theorem plain_unchain : plainId "proto.unchain" = true := by decide +kernel
theorem _root_.Mine.Calm.at_update {it : Addr} {f : Obj → Obj} (hA : Calm A s.heap) (hAi : A.handled ≠ some (.ref it)) : Calm A (s.heap.update it f) := by
  rcases hA with hA | ⟨e, o, vs, a1, a2, a3, a4, a5⟩
  · exact .inl hA
  · exact .inr ⟨e, o, vs, a1, (Heap.get?_update_other _ _ (fun q : it = e => hAi (by rw [a1, q]))).trans a2, a3, a4, a5⟩
theorem _root_.Mine.Calm.not_of {it : Addr} {o : Obj} (hA : Calm A s.heap) (e : s.heap.get? it = some o) (hc : o.cls ≠ .type "TypeError") : A.handled ≠ some (.ref it) := by
  rcases hA with hA | ⟨e', o', vs, a1, a2, a3, a4, a5⟩
  · rw [hA]; intro q; cases q
  · intro q; rw [a1] at q; cases q; rw [e] at a2; cases a2; exact hc a3
theorem new_stop {α : Type} {Q : α → Shared → Prop} (hA : Calm A s.heap) (hE : ∀ h' e tk, Le s.heap h' → (∃ o, h'.get? e = some o ∧ o.cls = .type "StopIteration") → E (.ref e) { s with heap := h', toks := tk }) :
    wpAny (MM w) A (newExc (.type "StopIteration") [] >>= fun e => (raiseNew e : Sem α)) Q E s := by
  refine wpAny_bind ?_
  simp only [newExc, newTuple]
  refine wpAny_bind (wpAny_newObj_type ?_ (by size_fits))
  refine wpAny_bind (m := firstArgMember _ _) (wpAny_of_eq (a := Value.none) (by first | rfl | (simp only [firstArgMember]; rfl)) ?_)
  refine wpAny_newObj_type ?_ (by size_fits)
  have hk : ∀ O : Obj, Le s.heap ((s.heap.push { cls := .type "tuple", data := .seq #[] }).push O) := fun O b o e => Heap.get?_push_of_some _ (Heap.get?_push_of_some _ e)
  simp only [raiseNew]
  refine wpAny_bind (wpAny_handled ?_)
  rcases hA with hA | ⟨e, o, vs, a1, a2, a3, a4, a5⟩
  · rw [hA]
    refine wpAny_bind (wpAny_pure (wpAny_throw ?_))
    exact hE _ _ s.toks (fun b o e => Heap.get?_push_of_some _ (Heap.get?_push_of_some _ e)) ⟨_, Heap.get?_push_size _ rfl, rfl⟩
  · rw [a1]
    have hne : e ≠ (s.heap.push { cls := .type "tuple", data := .seq #[] }).objs.size := fun q => by
      rw [q, Heap.size_push] at a2
      exact absurd (Heap.lt_size a2) (Nat.not_lt.mpr (Nat.le_succ _))
    dsimp only
    rw [if_pos (by simpa using hne)]
    refine wpAny_bind (wpAny_holding (wpAny_runValue (codeAny_builtin entry_unchain ?_)))
    rw [Around.under_plainId plain_unchain _]
    show wpAny _ _ (field (.ref e) 2 >>= _) _ _ _
    refine wpAny_bind (wpAny_field (hk _ _ _ a2) a4 (x := .none) a5 ?_)
    refine wpAny_pure ?_
    show wpAny _ _ (do updateField _ 2 (.ref e); throw _) _ _ _
    unfold updateField
    refine wpAny_bind (wpAny_bind (wpAny_load (Heap.get?_push_size _ rfl) ?_))
    dsimp only
    rw [if_pos (by simp only [List.size_toArray, Array.size_append, List.length_cons, List.length_nil]; omega)]
    refine wpAny_update (Heap.get?_push_size _ rfl) (wpAny_throw ?_)
    refine hE _ _ s.toks (fun b o eb => (Heap.SameBut.update ..).extBut b o (fun q => ?_) (hk _ b o eb)) ⟨_, Heap.get?_update_self _ (Heap.get?_push_size _ rfl) rfl, Obj.cls_mapFields ..⟩
    rw [q, Heap.size_push] at eb
    exact absurd (Heap.lt_size eb) (Nat.not_lt.mpr (Nat.le_succ _))

theorem list_done {it l : Addr} {i : Nat} {items : Array Value} {Q : Value → Shared → Prop} (hA : Calm A s.heap) (hAi : A.handled ≠ some (.ref it))
    (hit : s.heap.IsListIter it l i) (hl : s.heap.IsList l items) (hx : items[i]? = none)
    (hE : ∀ h' e tk, Heap.ExtBut it s.heap h' → (∃ o, h'.get? e = some o ∧ o.cls = .type "StopIteration") → E (.ref e) { s with heap := h', toks := tk }) :
    wpAny (MM w) A (Builtin.SmallTypes.nextOf (.ref it)) Q E s := by
  obtain ⟨o, ho, hc, hd⟩ := id hit
  obtain ⟨ol, hol, _, nl, hdl⟩ := hl
  unfold Builtin.SmallTypes.nextOf
  refine wpAny_bind (wpAny_callSpecial?_slot (name := Str.ofString "__next__") hit.typeIs slot_listiter_next
    (wpAny_call_entry slot_listiter_next hit.typeIs entry_listiter_next ?_ (args_listiter_next _)))
  show wpAny _ _ (field (.ref it) 0 >>= _) _ _ s
  refine wpAny_bind (wpAny_field ho hd (x := .ref l) rfl ?_)
  show wpAny _ _ (if (Value.ref l == Value.none) = true then _ else _) _ _ s
  rw [if_neg (show ¬ ((Value.ref l == Value.none) = true) from Bool.false_ne_true)]
  show wpAny _ _ (field (.ref it) 1 >>= _) _ _ s
  refine wpAny_bind (wpAny_field ho hd (x := .int i 0) rfl ?_)
  show wpAny _ _ (seqItems? (.ref l) >>= _) _ _ s
  refine wpAny_bind (wpAny_seqItems hol hdl ?_)
  simp only [Int.toNat_natCast, hx]
  refine wpAny_bind (wpAny_rule (wpAny_bind (wpAny_setField ho hd (by simp) ?_)))
  show wpAny _ _ (newExc (.type "StopIteration") [] >>= fun e => raiseNew e) _ _ _
  exact new_stop (by exact hA.at_update hAi) fun h' e tk hl ho => hE h' e tk (fun b o hb e => hl b o ((Heap.SameBut.update ..).extBut b o hb e)) ho
theorem ascii_done {it : Addr} {x : Str} {t : Tok} {i : Nat} {Q : Value → Shared → Prop} (hA : Calm A s.heap) (hAi : A.handled ≠ some (.ref it))
    (hit : s.heap.IsStrIter it "str_ascii_iterator" x t i) (hx : x.cps[i]? = none)
    (hE : ∀ h' e tk, Heap.ExtBut it s.heap h' → (∃ o, h'.get? e = some o ∧ o.cls = .type "StopIteration") → E (.ref e) { s with heap := h', toks := tk }) :
    wpAny (MM w) A (Builtin.SmallTypes.nextOf (.ref it)) Q E s := by
  obtain ⟨o, ho, hc, hd⟩ := id hit
  unfold Builtin.SmallTypes.nextOf
  refine wpAny_bind (wpAny_callSpecial?_slot (name := Str.ofString "__next__") hit.typeIs F.slot_str_ascii_iterator_next
    (wpAny_call_entry F.slot_str_ascii_iterator_next hit.typeIs F.entry_str_ascii_iterator_next ?_ (F.args_str_ascii_iterator_next_1 _)))
  show wpAny _ _ (field (.ref it) 0 >>= _) _ _ s
  refine wpAny_bind (wpAny_field ho hd (x := .str x t) rfl ?_)
  show wpAny _ _ (field (.ref it) 1 >>= _) _ _ s
  refine wpAny_bind (wpAny_field ho hd (x := .int i 0) rfl ?_)
  simp only [Int.toNat_natCast, hx]
  refine wpAny_bind (wpAny_rule (wpAny_bind (wpAny_setField ho hd (by simp) (wpAny_bind (wpAny_letGo ?_)))))
  show wpAny _ _ (newExc (.type "StopIteration") [] >>= fun e => raiseNew e) _ _ _
  exact new_stop (by exact hA.at_update hAi) fun h' e tk hl ho => hE h' e tk (fun b o hb e => hl b o ((Heap.SameBut.update ..).extBut b o hb e)) ho
end

/-- what can be turned to an iterator that draws -/
def Itb (d : D) (ds : List D) : Prop := ∀ (w : World) (A : Around) (hb : Heap) (s : Shared) (v : Value), V hb v d → Le hb s.heap → ∀ (E : Value → Shared → Prop) (Q : Value → Shared → Prop),
  (∀ o dr, dr.it = s.heap.objs.size → DrOk hb dr → dr.ds = ds → dr.S 0 (s.heap.push o) → (∀ b ∈ dr.fp, b = dr.it ∨ ∃ ob, hb.get? b = some ob) → Q (.ref s.heap.objs.size) { s with heap := s.heap.push o }) →
  wpAny (MM w) A (pyIter v) Q E s

theorem Itb.seqlist {d : D} {ds : List D} (h : ∀ hb v, V hb v d → SeqV "list" ds hb v) : Itb d ds := by
  intro w A hb s v hv hle E Q hQ
  obtain ⟨a, o, vs, n, rfl, g1, g2, g3, g4⟩ := h _ _ hv
  have ho := hle _ _ g1
  have hl := g4.length
  simp only [Array.length_toList] at hl
  have hne : a ≠ s.heap.objs.size := Nat.ne_of_lt (Heap.lt_size ho)
  refine wpAny_pyIter_list ⟨o, ho, g2, n, g3⟩ (hQ _ ⟨s.heap.objs.size, [s.heap.objs.size, a], ds, fun i v => vs[i]? = some v, fun i h => h.IsListIter s.heap.objs.size a i ∧ h.IsList a vs⟩ rfl ?_ rfl ?_ ?_)
  · have D0 : ∀ w, Draws PW w {} s.heap.objs.size [s.heap.objs.size, a] vs.size (fun i v => vs[i]? = some v) (fun i h => h.IsListIter s.heap.objs.size a i ∧ h.IsList a vs) := fun w => Draws.list rfl _ _ hne vs
    refine ⟨fun A w i s' Q E hi st hQ => ?_, fun A w s' Q E hA st hE => ?_, List.mem_cons_self .., fun i h h' st hk => (D0 w).frame i h h' st hk, fun i v hi hP => ?_, fun i h hp => ?_⟩
    · dsimp only at hi st hQ ⊢
      refine wpAny_nextOf_list_item st.1 st.2 (x := vs[i]) (by simp [hl, hi]) fun h' hit' hs' => ?_
      exact hQ _ h' s'.toks (by simp [hl, hi]) ⟨hit', st.2.extBut hs'.extBut hne⟩ hs'
    · dsimp only at st hE ⊢
      obtain ⟨o', ho', hc', _⟩ := id st.1
      exact list_done hA (hA.not_of ho' (by rw [hc']; decide)) st.1 st.2 (by simp [hl]) hE
    · dsimp only at hi hP ⊢
      obtain ⟨u, hu, hv⟩ := g4.get (d := ds[i]) (i := i) (by simp [hi])
      refine ⟨ds[i], by simp [hi], ?_⟩
      have : v = u := by
        rw [Array.getElem?_toList, hP] at hu; exact Option.some.inj hu
      exact this ▸ hv
    · obtain ⟨⟨o, ho, hc, _⟩, _⟩ := hp
      refine ⟨o, ho, ?_, ?_, ?_, ?_, ?_⟩ <;> (rw [hc]; decide)
  · exact ⟨⟨_, Heap.get?_push_size _ rfl, rfl, rfl⟩, o, Heap.get?_push_of_some _ ho, g2, n, g3⟩
  · intro b hb
    rcases List.mem_cons.mp hb with rfl | hb
    · exact .inl rfl
    · rcases List.mem_cons.mp hb with rfl | hb
      · exact .inr ⟨o, g1⟩
      · cases hb
theorem Itb.list {xs : List PyData} : Itb (.py (.list xs)) (xs.map .py) := .seqlist fun _ _ x => .of_list x
theorem Itb.lv {ds : List D} : Itb (LV ds) ds := .seqlist fun _ _ x => x.out
theorem Itb.str {x : Str} (ha : x.cps.all (· < 128) = true) : Itb (.py (.str x)) ((signsD x).map .py) := by
  intro w A hb s v hv hle E Q hQ
  obtain ⟨t, rfl⟩ := hv.str_inv
  refine wpAny_pyIter_ascii ha (hQ _ ⟨s.heap.objs.size, [s.heap.objs.size], (signsD x).map .py, fun i v => ∃ c u, x.cps[i]? = some c ∧ v = .str ⟨#[c]⟩ u, fun i h => h.IsStrIter s.heap.objs.size "str_ascii_iterator" x t i⟩ rfl ?_ rfl ?_ ?_)
  · have hl : ((signsD x).map D.py).length = x.cps.size := by simp [signsD]
    refine ⟨fun A w i s' Q E hi st hQ => ?_, fun A w s' Q E hA st hE => ?_, List.mem_cons_self .., fun i h h' st hk => let ⟨o, ho, r⟩ := st; ⟨o, hk _ (List.mem_cons_self ..) o ho, r⟩, fun i v hi hP => ?_, fun i h hp => ?_⟩
    · have hi' : i < x.cps.size := by rw [← hl]; exact hi
      refine wpAny_nextOf_ascii_item st (c := x.cps[i]) (by simp [hi']) fun h' hit' hs' => ?_
      exact hQ _ h' (s'.toks + 1) ⟨_, _, by simp [hi'], rfl⟩ hit' hs'
    · obtain ⟨o', ho', hc', _⟩ := id st
      refine ascii_done hA (hA.not_of ho' (by rw [hc']; decide)) st ?_ hE
      show x.cps[((signsD x).map D.py).length]? = none
      rw [hl]; simp
    · obtain ⟨k, u, hk, rfl⟩ := hP
      refine ⟨.py (.str ⟨#[k]⟩), ?_, V.str⟩
      simp [signsD, Array.getElem?_toList, hk]
    · obtain ⟨o, ho, hc, _⟩ := hp
      refine ⟨o, ho, ?_, ?_, ?_, ?_, ?_⟩ <;> (rw [hc]; decide)
  · exact ⟨_, Heap.get?_push_size _ rfl, rfl, rfl⟩
  · intro b hb
    rcases List.mem_cons.mp hb with rfl | hb
    · exact .inl rfl
    · cases hb

/-- all of them are turned -/
inductive ItbL : List D → List (List D) → Prop
  | nil : ItbL [] []
  | cons {d ds dl dsl} : Itb d ds → ItbL dl dsl → ItbL (d :: dl) (ds :: dsl)

structure Turned (hb : Heap) (h₀ h : Heap) (dsl : List (List D)) (its : List Value) (dl : List Dr) : Prop where
  its : its = dl.map fun d => Value.ref d.it
  ds : dl.map (·.ds) = dsl
  ok : ∀ d ∈ dl, DrOk hb d
  st : ∀ d ∈ dl, d.S 0 h
  fp : ∀ d ∈ dl, ∀ b ∈ d.fp, b = d.it ∨ ∃ ob, hb.get? b = some ob
  new : ∀ d ∈ dl, h₀.objs.size ≤ d.it ∧ d.it < h.objs.size
  apart : dl.Pairwise fun x y => x.it ≠ y.it
  le : Le h₀ h
  size : h₀.objs.size ≤ h.objs.size

section
variable {w : World} {A : Around} {E : Value → Shared → Prop}

theorem iterAll_walk {hb : Heap} : ∀ (vs : List Value) (ds : List D) (dsl : List (List D)) (s : Shared) (acc : List Value) (dl₀ : List Dr) (dsl₀ : List (List D)) (h₀ : Heap), VL hb vs ds → ItbL ds dsl → Le hb h₀ → Turned hb h₀ s.heap dsl₀ acc dl₀ →
    ∀ (Q : Array Value → Shared → Prop) (f : Value → Array Value → Sem (ForInStep (Array Value))),
    (∀ x its s' (Q' : ForInStep (Array Value) → Shared → Prop), wpAny (MM w) A (pyIter x) (fun i s₂ => Q' (.yield (its.push i)) s₂) E s' → wpAny (MM w) A (f x its) Q' E s') →
    (∀ its dl h', Turned hb h₀ h' (dsl₀ ++ dsl) its dl → Q its.toArray { s with heap := h' }) → wpAny (MM w) A (forIn vs acc.toArray f) Q E s
  | [], _, _, s, acc, dl₀, dsl₀, h₀, .nil, .nil, hle, T, Q, f, hf, hQ => by
    rw [List.forIn_nil]
    exact wpAny_pure (hQ acc dl₀ s.heap (by simpa using T))
  | v :: vs, _, _, s, acc, dl₀, dsl₀, h₀, .cons hv hvs, .cons (ds := ds) (dsl := dsl) hi hl, hle, T, Q, f, hf, hQ => by
    rw [List.forIn_cons]
    refine wpAny_bind (hf _ _ _ _ (hi w A hb s v hv (fun b o e => T.le b o (hle b o e)) _ _ fun o dr h1 h2 h3 h4 h5 => ?_))
    dsimp only
    have hT : Turned hb h₀ (s.heap.push o) (dsl₀ ++ [ds]) (acc ++ [.ref s.heap.objs.size]) (dl₀ ++ [dr]) := by
      refine ⟨by rw [T.its]; simp [h1], by rw [List.map_append, T.ds]; simp [h3], fun d hd => ?_, fun d hd => ?_, fun d hd => ?_, fun d hd => ?_, ?_, fun b o' e => Heap.get?_push_of_some _ (T.le b o' e), by rw [Heap.size_push]; exact Nat.le_succ_of_le T.size⟩
      · rcases List.mem_append.mp hd with hd | hd
        · exact T.ok d hd
        · simp at hd; subst hd; exact h2
      · rcases List.mem_append.mp hd with hd | hd
        · exact (T.ok d hd).frame _ _ _ (T.st d hd) fun b _ o' e => Heap.get?_push_of_some _ e
        · simp at hd; subst hd; exact h4
      · rcases List.mem_append.mp hd with hd | hd
        · exact T.fp d hd
        · simp at hd; subst hd; exact h5
      · rcases List.mem_append.mp hd with hd | hd
        · obtain ⟨a, b⟩ := T.new d hd
          exact ⟨a, by rw [Heap.size_push]; exact Nat.lt_succ_of_lt b⟩
        · simp at hd; subst hd
          rw [h1, Heap.size_push]
          exact ⟨T.size, Nat.lt_succ_self _⟩
      · refine List.pairwise_append.mpr ⟨T.apart, List.pairwise_singleton .., fun a ha b hb' => ?_⟩
        simp at hb'; subst hb'
        rw [h1]; exact Nat.ne_of_lt (T.new a ha).2
    have := iterAll_walk vs _ dsl { s with heap := s.heap.push o } (acc ++ [.ref s.heap.objs.size]) (dl₀ ++ [dr]) (dsl₀ ++ [ds]) h₀ hvs hl hle hT Q f hf (fun its dl h' T' => hQ its dl h' (by simpa using T'))
    simpa using this

theorem checks_zip (args : List Value) (h : args.length ≤ 5) : checkTypeCall "zip" ⟨args, []⟩ = pure () ∧ checkBuiltinCall "zip.__new__" ⟨.type "zip" :: args, []⟩ = pure () ∧ ∀ obj, argsOk "object.__init__" ⟨obj :: args, []⟩ := by
  match args, h with
  | [], _ => exact ⟨by kernel_rfl, by kernel_rfl, fun _ => by unfold argsOk; rw [signature?_of (id := "object.__init__") (n := ['_', '_', 't', 'i', 'n', 'i', '_', '_']) (o := ['t', 'c', 'e', 'j', 'b', 'o']) (by kernel_rfl) PySem.F.owner_object]; kernel_rfl⟩
  | [a], _ => exact ⟨by kernel_rfl, by kernel_rfl, fun _ => by unfold argsOk; rw [signature?_of (id := "object.__init__") (n := ['_', '_', 't', 'i', 'n', 'i', '_', '_']) (o := ['t', 'c', 'e', 'j', 'b', 'o']) (by kernel_rfl) PySem.F.owner_object]; kernel_rfl⟩
  | [a, b], _ => exact ⟨by kernel_rfl, by kernel_rfl, fun _ => by unfold argsOk; rw [signature?_of (id := "object.__init__") (n := ['_', '_', 't', 'i', 'n', 'i', '_', '_']) (o := ['t', 'c', 'e', 'j', 'b', 'o']) (by kernel_rfl) PySem.F.owner_object]; kernel_rfl⟩
  | [a, b, c], _ => exact ⟨by kernel_rfl, by kernel_rfl, fun _ => by unfold argsOk; rw [signature?_of (id := "object.__init__") (n := ['_', '_', 't', 'i', 'n', 'i', '_', '_']) (o := ['t', 'c', 'e', 'j', 'b', 'o']) (by kernel_rfl) PySem.F.owner_object]; kernel_rfl⟩
  | [a, b, c, d], _ => exact ⟨by kernel_rfl, by kernel_rfl, fun _ => by unfold argsOk; rw [signature?_of (id := "object.__init__") (n := ['_', '_', 't', 'i', 'n', 'i', '_', '_']) (o := ['t', 'c', 'e', 'j', 'b', 'o']) (by kernel_rfl) PySem.F.owner_object]; kernel_rfl⟩
  | [a, b, c, d, e], _ => exact ⟨by kernel_rfl, by kernel_rfl, fun _ => by unfold argsOk; rw [signature?_of (id := "object.__init__") (n := ['_', '_', 't', 'i', 'n', 'i', '_', '_']) (o := ['t', 'c', 'e', 'j', 'b', 'o']) (by kernel_rfl) PySem.F.owner_object]; kernel_rfl⟩
  | _ :: _ :: _ :: _ :: _ :: _ :: _, h => simp at h

theorem zip_new_in (args : List Value) : MeetsIn PW w (Builtin.«zip.__new__» ⟨.type "zip" :: args, []⟩) (fun A R s => wpAny (MM w) A.in1 (Builtin.SmallTypes.iterAll args) (fun its s' => its.length ≤ 1000 ∧
      R (.ok (.ret (.ref (s'.heap.objs.size + 1 + 1)))) { s' with heap := ((s'.heap.push (tObj its.toArray 0)).push (tObj (its.map fun _ => Value.none).toArray 0)).push (zObj s'.heap.objs.size (s'.heap.objs.size + 1) .none (.bool false)) }) (fun e s' => R (.error e) s') s) :=
  .of_wp fun A R s h => by
    have hsub := sub_zip
    unfold Builtin.«zip.__new__»
    show wpAny _ _ (Builtin.SmallTypes.newClass "zip" ⟨.type "zip" :: args, []⟩ >>= _) _ _ _
    unfold Builtin.SmallTypes.newClass
    refine wpAny_bind ?_
    dsimp only
    refine wpAny_bind (wpAny_of_eq (a := true) (by kernel_rfl) ?_)
    simp only [Bool.not_true, Bool.false_eq_true, if_false]
    refine wpAny_bind (wpAny_of_eq hsub ?_)
    simp only [Bool.not_true, Bool.false_eq_true, if_false]
    refine wpAny_pure ?_
    simp only [List.length_nil, Nat.not_lt_zero, gt_iff_lt, if_false]
    refine wpAny_bind (wpAny_mono h (fun its s' hx => ?_) fun _ _ e => e)
    obtain ⟨hl, hR⟩ := hx
    refine wpAny_bind (wpAny_newTuple (hsz := by rw [sizeLine_eq]; omega) ?_)
    refine wpAny_bind (wpAny_newTuple (hsz := by rw [sizeLine_eq, List.length_map]; omega) ?_)
    unfold Builtin.SmallTypes.newRecord
    dsimp only
    refine wpAny_bind (wpAny_newObj_type ?_ (by simp [sizeOk, Builtin.SmallTypes.ownedTupleFields, sizeLine_eq]))
    refine wpAny_pure ⟨_, rfl, ?_⟩
    simpa [Heap.size_push, zObj, tObj, Builtin.SmallTypes.ownedTupleFields] using hR

/-- the zip of things that can be turned -/
theorem call_zip {hb : Heap} {s : Shared} {vs : List Value} {ds : List D} {dsl : List (List D)} {Q : Value → Shared → Prop} (hv : VL hb vs ds) (hi : ItbL ds dsl) (hle : Le hb s.heap) (hl : ds.length ≤ 5)
    (hQ : ∀ dl h' z TI TO, dl.map (·.ds) = dsl → (∀ d ∈ dl, DrOk hb d) → Zap dl z TI TO → Zs dl z TI TO 0 h' → (∀ d ∈ dl, ∀ b ∈ d.fp, b = d.it ∨ ∃ ob, hb.get? b = some ob) → Le s.heap h' →
      s.heap.get? z = none → s.heap.get? TI = none → s.heap.get? TO = none → (∀ d ∈ dl, s.heap.get? d.it = none) → Q (.ref z) { s with heap := h' }) :
    wpAny (MM w) A (call (.type "zip") vs) Q E s := by
  obtain ⟨c1, c2, c3⟩ := checks_zip vs (by rw [hv.length]; exact hl)
  refine callType_newIn F.called_zip (by decide) c1 c2 c3 F.entry_zip_new (zip_new_in vs) ?_
  unfold Builtin.SmallTypes.iterAll
  refine wpAny_bind (iterAll_walk (w := w) (A := A.in1.in1) vs ds dsl s [] [] [] s.heap hv hi hle ⟨rfl, rfl, (fun d hd => by cases hd), (fun d hd => by cases hd), (fun d hd => by cases hd), (fun d hd => by cases hd), .nil, fun _ _ e => e, Nat.le_refl _⟩ _ _ (fun x its s' Q' h => ?_) fun its dl h' T => ?_)
  · exact wpAny_bind (wpAny_holding (wpAny_mono h (fun i s₂ h₂ => wpAny_pure h₂) fun _ _ e => e))
  · refine wpAny_pure ?_
    simp only [List.nil_append] at T
    have hlen : its.length = ds.length := by
      rw [T.its, List.length_map]
      have := congrArg List.length T.ds
      simp only [List.length_map] at this
      rw [this]
      clear this T hQ c1 c2 c3 hv hl
      induction hi with
      | nil => rfl
      | cons _ _ ih => simp [ih]
    let H := h'
    have k1 : Le H ((H.push (tObj its.toArray 0)).push (tObj (its.map fun _ => Value.none).toArray 0)) := fun b o e => Heap.get?_push_of_some _ (Heap.get?_push_of_some _ e)
    have z1 : (H.push (tObj its.toArray 0)).objs.size = H.objs.size + 1 := Heap.size_push ..
    have z2 : ((H.push (tObj its.toArray 0)).push (tObj (its.map fun _ => Value.none).toArray 0)).objs.size = H.objs.size + 1 + 1 := by rw [Heap.size_push, z1]
    have gz : (((H.push (tObj its.toArray 0)).push (tObj (its.map fun _ => Value.none).toArray 0)).push (zObj H.objs.size (H.objs.size + 1) .none (.bool false))).get? (H.objs.size + 1 + 1) = some (zObj H.objs.size (H.objs.size + 1) .none (.bool false)) := by
      rw [← z2]; exact Heap.get?_push_size _ rfl
    have gTO : (((H.push (tObj its.toArray 0)).push (tObj (its.map fun _ => Value.none).toArray 0)).push (zObj H.objs.size (H.objs.size + 1) .none (.bool false))).get? (H.objs.size + 1) = some (tObj (its.map fun _ => Value.none).toArray 0) := by
      refine Heap.get?_push_of_some _ ?_
      rw [← z1]; exact Heap.get?_push_size _ rfl
    have gTI : (((H.push (tObj its.toArray 0)).push (tObj (its.map fun _ => Value.none).toArray 0)).push (zObj H.objs.size (H.objs.size + 1) .none (.bool false))).get? H.objs.size = some (tObj its.toArray 0) :=
      Heap.get?_push_of_some _ (Heap.get?_push_of_some _ (Heap.get?_push_size _ rfl))
    refine ⟨by simp; omega, ⟨_, gz, rfl⟩, ?_⟩
    have hup : ∀ b o, H.get? b = some o → (((H.push (tObj its.toArray 0)).push (tObj (its.map fun _ => Value.none).toArray 0)).push (zObj H.objs.size (H.objs.size + 1) .none (.bool false))).get? b = some o := fun b o e => Heap.get?_push_of_some _ (k1 b o e)
    have hlow : ∀ d ∈ dl, ∀ b ∈ d.fp, b < H.objs.size := fun d hd b hb' => by
      rcases T.fp d hd b hb' with rfl | ⟨o, e⟩
      · exact (T.new d hd).2
      · exact Heap.lt_size (T.le _ _ (hle _ _ e))
    refine hQ dl _ (H.objs.size + 1 + 1) H.objs.size (H.objs.size + 1) T.ds T.ok ⟨Nat.ne_of_lt (Nat.lt_succ_of_lt (Nat.lt_succ_self _)), Nat.ne_of_lt (Nat.lt_succ_self _), Nat.ne_of_lt (Nat.lt_succ_self _), fun d hd => ⟨fun q => ?_, fun q => ?_, Nat.ne_of_lt (T.new d hd).2, (T.ok d hd).own⟩, ?_⟩
      ⟨⟨_, _, gz, .inl rfl⟩, by rw [← T.its]; exact gTI, ⟨_, _, by rw [T.its]; simp, gTO⟩, fun d hd => (T.ok d hd).frame _ _ _ (T.st d hd) fun b _ o e => hup b o e⟩ T.fp (fun b o e => hup b o (T.le b o e)) ?_ ?_ ?_ fun d hd => fresh_ge (T.new d hd).1
    · exact absurd (hlow d hd _ q) (Nat.not_lt.mpr (Nat.le_succ_of_le (Nat.le_succ _)))
    · exact absurd (hlow d hd _ q) (Nat.not_lt.mpr (Nat.le_succ _))
    · have hne : ∀ x ∈ dl, ∀ y ∈ dl, x.it ≠ y.it → x.it ∉ y.fp := fun x hx y hy hxy q => by
        rcases T.fp y hy _ q with h | ⟨o, e⟩
        · exact hxy h
        · have := Heap.lt_size (hle _ _ e)
          exact absurd this (Nat.not_lt.mpr (T.new x hx).1)
      exact (List.pairwise_iff_getElem.mpr fun i j hi hj hij => by
        have h1 := List.pairwise_iff_getElem.mp T.apart i j hi hj hij
        exact ⟨hne _ (List.getElem_mem hi) _ (List.getElem_mem hj) h1, hne _ (List.getElem_mem hj) _ (List.getElem_mem hi) (Ne.symm h1)⟩)
    · exact fresh_ge (Nat.le_succ_of_le (Nat.le_succ_of_le T.size))
    · exact fresh_ge T.size
    · exact fresh_ge (Nat.le_succ_of_le T.size)
end
end Mine
end

/-! ## F21 -/
section
namespace Mine

theorem St.grow {c : Ctx} {ρ ρ₁ : Rho} {O O₁ : List Own} {hb hb₁ : Heap} {s s₁ : Shared} {T : Addr} {o : Obj} (S₁ : St c ρ₁ O₁ hb₁ s₁) (S : St c ρ O hb s) (hn : s₁.heap.get? T = none) (hT : s.heap.get? T = some o)
    (hO : ∀ o ∈ O, ∀ b ∈ o.wr, ∃ o' ∈ O₁, b ∈ o'.wr) : St c ρ O (addH hb T s.heap) s ∧ Le hb (addH hb T s.heap) ∧ (addH hb T s.heap).get? T = some o := by
  have k : Le hb (addH hb T s.heap) := fun b o e => only_get.mpr ⟨.inl ⟨o, e⟩, S.base.le b o e⟩
  have h0 := S₁.ext.kp.none S₁.ok.tab₀ hn
  have hph : T ≠ PH := by rintro rfl; obtain ⟨ps, e⟩ := S₁.base.tab.obj; rw [hn] at e; cases e
  have hfr : T ∉ fra c.l := fun q => by obtain ⟨_, _, m, o', _, _, e, _⟩ := S₁.base.fr T q; rw [hn] at e; cases e
  have hloc : T ≠ c.env.locals := by rintro rfl; obtain ⟨⟨m, o', _, _, e, _⟩, _⟩ := S₁.loc; rw [hn] at e; cases e
  have hcell : ∀ n a, c.env.cells.lookup n = some a → a ≠ T := by rintro n a h rfl; obtain ⟨_, _, ⟨u, o', e, _⟩, _⟩ := S₁.cells n a h; rw [hn] at e; cases e
  have hwr : ∀ o ∈ O, T ∉ o.wr := fun o ho q => by
    obtain ⟨o', ho', q'⟩ := hO o ho T q
    obtain ⟨k1, k2, _⟩ := S₁.own o' ho'
    obtain ⟨ob, e, _⟩ := k1.live _ k2 T q'
    rw [hn] at e; cases e
  have nn : ∀ b, b ≠ T → hb.get? b = none → (addH hb T s.heap).get? b = none := fun b h1 h2 => only_none (by
    rintro (⟨o, e⟩ | e)
    · rw [h2] at e; cases e
    · exact h1 e)
  refine ⟨?_, k, only_get.mpr ⟨.inr rfl, hT⟩⟩
  refine { ok := S.ok, base := ⟨fun b o e => (only_get.mp e).2, nn _ (Ne.symm hph) S.base.ph, fun b hb => ⟨nn _ (fun e => hfr (e ▸ hb)) (S.base.fr b hb).1, (S.base.fr b hb).2⟩, S.base.gd.up k, S.base.tab, S.base.fk⟩, env := fun x d e => let ⟨v, h1, h2⟩ := S.env x d e; ⟨v, h1, h2.up k⟩, loc := ⟨S.loc.1, nn _ (Ne.symm hloc) S.loc.2.1, S.loc.2.2⟩, cells := fun n a h => let ⟨h1, h2, h3⟩ := S.cells n a h; ⟨h1, nn _ (hcell n a h) h2, h3⟩, cellsA := S.cellsA, own := fun o ho => ?_, disj := S.disj, pers := S.ok.pup _ _ k S.pers, ext := ?_ }
  · obtain ⟨h1, h2, h3, h4⟩ := S.own o ho
    refine ⟨h1, h2, fun b hb => (h3 b hb).imp id fun ⟨ob, e⟩ => ⟨ob, k _ _ e⟩, fun b hb => { h4 b hb with hb := nn b (fun e => hwr o ho (e ▸ hb)) (h4 b hb).hb }⟩
  · refine ⟨S.ext.kp, fun b o e => k b o (S.ext.le b o e), fun b o e => ?_, fun b o e => (only_get.mp e).2⟩
    obtain ⟨h | rfl, e'⟩ := only_get.mp e
    · obtain ⟨o', h⟩ := h
      have := S.base.le b o' h
      rw [e'] at this; cases this
      exact S.ext.gr b o h
    · exact .inr h0

/-! ### zip as something to walk -/
def zOwn (dl : List Dr) (z TI TO : Addr) (i : Nat) : Own := ⟨z :: TO :: dl.map (·.it), z :: TO :: TI :: dl.flatMap (·.fp), Zs dl z TI TO i⟩
def rowD (dsl : List (List D)) (i : Nat) : List D := dsl.map fun ds => ds.getD i (.py .none)
def TupV (ds : List D) (h : Heap) (v : Value) : Prop := SeqV "tuple" ds h v

theorem zOwn_ok {dl : List Dr} {z TI TO : Addr} {hbI : Heap} (hok : ∀ d ∈ dl, DrOk hbI d) (hap : Zap dl z TI TO) (i : Nat) : (zOwn dl z TI TO i).Ok := by
  refine ⟨fun b hb => ?_, fun h h' hp k => ?_, fun h hp b hb => ?_⟩
  · rcases List.mem_cons.mp hb with rfl | hb
    · exact List.mem_cons_self ..
    · rcases List.mem_cons.mp hb with rfl | hb
      · exact List.mem_cons_of_mem _ (List.mem_cons_self ..)
      · obtain ⟨d, hd, rfl⟩ := List.mem_map.mp hb
        exact List.mem_cons_of_mem _ (List.mem_cons_of_mem _ (List.mem_cons_of_mem _ (List.mem_flatMap.mpr ⟨d, hd, (hok d hd).own⟩)))
  · obtain ⟨⟨f0, b, hz, hf⟩, hTI, ⟨kept, n, hk, hTO⟩, hS⟩ := hp
    refine ⟨⟨f0, b, k _ (List.mem_cons_self ..) _ hz, hf⟩, k _ (List.mem_cons_of_mem _ (List.mem_cons_of_mem _ (List.mem_cons_self ..))) _ hTI, ⟨kept, n, hk, k _ (List.mem_cons_of_mem _ (List.mem_cons_self ..)) _ hTO⟩, fun d hd => ?_⟩
    exact (hok d hd).frame _ _ _ (hS d hd) fun b hb o e => k b (List.mem_cons_of_mem _ (List.mem_cons_of_mem _ (List.mem_cons_of_mem _ (List.mem_flatMap.mpr ⟨d, hd, hb⟩)))) o e
  · obtain ⟨⟨f0, b', hz, hf⟩, hTI, ⟨kept, n, hk, hTO⟩, hS⟩ := hp
    rcases List.mem_cons.mp hb with rfl | hb
    · exact ⟨_, hz, fun h => by simp [zObj] at h⟩
    · rcases List.mem_cons.mp hb with rfl | hb
      · exact ⟨_, hTO, fun h => by simp [tObj] at h⟩
      · obtain ⟨d, hd, rfl⟩ := List.mem_map.mp hb
        obtain ⟨o, e, h1, _⟩ := (hok d hd).live _ _ (hS d hd)
        exact ⟨o, e, h1⟩

section
variable {w : World} {A : Around} {E : Value → Shared → Prop}

theorem pyNext_zip_item {dl : List Dr} {z TI TO : Addr} {i : Nat} {hbI : Heap} {s : Shared} {Q : Option Value → Shared → Prop} (hok : ∀ d ∈ dl, DrOk hbI d) (hap : Zap dl z TI TO) (hne : dl ≠ [])
    (hst : Zs dl z TI TO i s.heap) (hlt : ∀ d ∈ dl, i < d.ds.length) (hsz : dl.length ≤ 1000)
    (hQ : ∀ T vs h' tk, s.heap.get? T = none → h'.get? T = some (tObj vs 0) → vs.size = dl.length → (∀ (k : Nat) (d : Dr), dl[k]? = some d → ∃ v, vs[k]? = some v ∧ d.P i v) → Zs dl z TI TO (i + 1) h' →
      (∀ b o, b ≠ z → b ≠ TO → (∀ d ∈ dl, b ≠ d.it) → s.heap.get? b = some o → h'.get? b = some o) → Q (some (.ref T)) { s with heap := h', toks := tk }) :
    wpAny (MM w) A (pyNext (.ref z)) Q E s := by
  have hT : s.TypeIs (.ref z) "zip" := by obtain ⟨⟨f0, b, hz, _⟩, _⟩ := hst; exact ⟨_, hz, rfl⟩
  unfold pyNext
  exact wpAny_bind (wpAny_attempt (wpAny_callSpecial?_slot (name := Str.ofString "__next__") hT F.slot_zip_next
    (wpAny_call_entry F.slot_zip_next hT F.entry_zip_next
      (zip_next_item (Q := fun v s' => wpAny (MM w) A (pure (some v)) Q E s') hok hap hne hst hlt hsz fun T vs h' tk a1 a2 a3 a4 a5 a6 => wpAny_pure (hQ T vs h' tk a1 a2 a3 a4 a5 a6)) (F.args_zip_next_1 _))))
theorem pyNext_zip_end {dl : List Dr} {z TI TO : Addr} {i : Nat} {hbI : Heap} {s : Shared} {Q : Option Value → Shared → Prop} (hA : Calm A s.heap) (hok : ∀ d ∈ dl, DrOk hbI d) (hap : Zap dl z TI TO) (hne : dl ≠ [])
    (hst : Zs dl z TI TO i s.heap) (hge : ∀ d ∈ dl, i ≤ d.ds.length) (hex : ∃ d ∈ dl, d.ds.length = i) (hsz : dl.length ≤ 1000)
    (hQ : ∀ h' tk, (∀ b o, b ≠ z → b ≠ TO → (∀ d ∈ dl, b ≠ d.it) → s.heap.get? b = some o → h'.get? b = some o) → Q none { s with heap := h', toks := tk }) :
    wpAny (MM w) A (pyNext (.ref z)) Q E s := by
  have hT : s.TypeIs (.ref z) "zip" := by obtain ⟨⟨f0, b, hz, _⟩, _⟩ := hst; exact ⟨_, hz, rfl⟩
  unfold pyNext
  refine wpAny_bind (wpAny_attempt (wpAny_callSpecial?_slot (name := Str.ofString "__next__") hT F.slot_zip_next
    (wpAny_call_entry F.slot_zip_next hT F.entry_zip_next (zip_next_end hA hok hap hne hst hge hex hsz fun e h' tk he hk => ?_) (F.args_zip_next_1 _))))
  obtain ⟨o, ho, hc⟩ := he
  refine wpAny_bind (wpAny_isInstance (T := "StopIteration") (b := true) ⟨o, ho, hc⟩ isSubtype_stop ?_)
  exact wpAny_pure (hQ h' tk hk)
theorem pyIter_zip {dl : List Dr} {z TI TO : Addr} {i : Nat} {s : Shared} {Q : Value → Shared → Prop} (hst : Zs dl z TI TO i s.heap) (hQ : Q (.ref z) s) : wpAny (MM w) A (pyIter (.ref z)) Q E s := by
  obtain ⟨⟨f0, b, hz, _⟩, _⟩ := hst
  have hT : s.TypeIs (.ref z) "zip" := ⟨_, hz, rfl⟩
  refine wpAny_pyIter_slot hT F.slot_zip_iter (wpAny_call_entry F.slot_zip_iter hT F.entry_zip_iter ?_ (F.args_zip_iter_1 _))
  show wpAny _ _ (ret (.ref z)) _ _ s
  exact wpAny_pure ⟨_, rfl, "zip", _, hT, F.slot_zip_next.lookup, hQ⟩
end

theorem VL.of_get {h : Heap} : ∀ {vs : List Value} {ds : List D}, vs.length = ds.length → (∀ (k : Nat) (d : D), ds[k]? = some d → ∃ v, vs[k]? = some v ∧ V h v d) → VL h vs ds
  | [], [], _, _ => .nil
  | v :: vs, d :: ds, hl, hk => by
    obtain ⟨u, h1, h2⟩ := hk 0 d rfl
    cases h1
    exact .cons h2 (VL.of_get (by simpa using hl) fun k d' e => by simpa using hk (k + 1) d' (by simpa using e))

theorem zip_step {c : Ctx} {A : Around} {ρ : Rho} {O : List Own} {hb hbI : Heap} {s : Shared} {dl : List Dr} {dsl : List (List D)} {z TI TO : Addr} {n i : Nat} (hds : dl.map (·.ds) = dsl) (hok : ∀ d ∈ dl, DrOk hbI d) (hap : Zap dl z TI TO) (hne : dsl ≠ []) (hge : ∀ ds ∈ dsl, n ≤ ds.length)
    (hsz : dsl.length ≤ 1000) (hi : i < n) (hle : Le hbI hb) (S : St c ρ (zOwn dl z TI TO i :: O) hb s) {E : Value → Shared → Prop} :
    wpAny (MM c.w) A (pyNext (.ref z)) (fun r s' => ∃ v hb', r = some v ∧ Le hb hb' ∧ St c ρ (zOwn dl z TI TO (i + 1) :: O) hb' s' ∧ SeqV "tuple" (rowD dsl i) hb' v) E s := by
  have hne' : dl ≠ [] := by rintro rfl; exact hne hds.symm
  have hge' : ∀ d ∈ dl, n ≤ d.ds.length := fun d hd => hge _ (hds ▸ List.mem_map_of_mem hd)
  have hsz' : dl.length ≤ 1000 := by rw [← hds] at hsz; simpa using hsz
  obtain ⟨k1, k2, k3, k4⟩ := S.own _ (List.mem_cons_self ..)
  refine pyNext_zip_item hok hap hne' k2 (fun d hd => Nat.lt_of_lt_of_le hi (hge' d hd)) hsz' fun T vs h' tk hn hT hvs hvP hS hk => ?_
  have S' : St c ρ (zOwn dl z TI TO (i + 1) :: O) hb { s with heap := h', toks := tk } := S.write_own (o₂ := zOwn dl z TI TO (i + 1)) _ (fun b o hb e => hk b o (fun q => hb (q ▸ List.mem_cons_self ..)) (fun q => hb (q ▸ List.mem_cons_of_mem _ (List.mem_cons_self ..)))
    (fun d hd q => hb (q ▸ List.mem_cons_of_mem _ (List.mem_cons_of_mem _ (List.mem_map_of_mem hd)))) e) rfl gid (zOwn_ok hok hap _) hS (fun b h => h) k3
  obtain ⟨S₂, hle₂, hT₂⟩ := St.grow S S' hn hT (fun o ho b hb => by
    rcases List.mem_cons.mp ho with rfl | ho
    · exact ⟨_, List.mem_cons_self .., hb⟩
    · exact ⟨_, List.mem_cons_of_mem _ ho, hb⟩)
  refine ⟨.ref T, _, rfl, hle₂, S₂, T, _, vs, 0, rfl, hT₂, rfl, rfl, ?_⟩
  refine VL.of_get ?_ fun k d e => ?_
  · rw [Array.length_toList, hvs, rowD, List.length_map, ← hds, List.length_map]
  · rw [rowD, ← hds, List.map_map, List.getElem?_map] at e
    obtain ⟨dr, hdr, hd⟩ := Option.map_eq_some_iff.mp e
    obtain ⟨v, hv, hP⟩ := hvP k dr hdr
    have hmem : dr ∈ dl := List.mem_of_getElem? hdr
    obtain ⟨d', hd', hV⟩ := (hok dr hmem).res i v (Nat.lt_of_lt_of_le hi (hge' dr hmem)) hP
    refine ⟨v, by rw [Array.getElem?_toList]; exact hv, ?_⟩
    have : d' = d := by
      rw [← hd]
      simp [List.getD, hd']
    exact this ▸ (hV.up hle).up hle₂
theorem zip_stop {c : Ctx} {A : Around} {ρ : Rho} {O : List Own} {hb hbI : Heap} {s : Shared} {dl : List Dr} {dsl : List (List D)} {z TI TO : Addr} {n : Nat} (hA : Calm A s.heap) (hds : dl.map (·.ds) = dsl) (hok : ∀ d ∈ dl, DrOk hbI d) (hap : Zap dl z TI TO) (hne : dsl ≠ []) (hge : ∀ ds ∈ dsl, n ≤ ds.length)
    (hex : ∃ ds ∈ dsl, ds.length = n) (hsz : dsl.length ≤ 1000) (S : St c ρ (zOwn dl z TI TO n :: O) hb s) {E : Value → Shared → Prop} :
    wpAny (MM c.w) A (pyNext (.ref z)) (fun r s' => ∃ hb', r = none ∧ Le hb hb' ∧ St c ρ O hb' s') E s := by
  have hne' : dl ≠ [] := by rintro rfl; exact hne hds.symm
  have hge' : ∀ d ∈ dl, n ≤ d.ds.length := fun d hd => hge _ (hds ▸ List.mem_map_of_mem hd)
  have hex' : ∃ d ∈ dl, d.ds.length = n := by
    obtain ⟨ds, h1, h2⟩ := hex
    rw [← hds] at h1
    obtain ⟨d, hd, rfl⟩ := List.mem_map.mp h1
    exact ⟨d, hd, h2⟩
  have hsz' : dl.length ≤ 1000 := by rw [← hds] at hsz; simpa using hsz
  obtain ⟨k1, k2, k3, k4⟩ := S.own _ (List.mem_cons_self ..)
  refine pyNext_zip_end hA hok hap hne' k2 hge' hex' hsz' fun h' tk hk => ⟨hb, rfl, fun _ _ e => e, ?_⟩
  have : St c ρ (⟨[], [], fun _ => True⟩ :: O) hb { s with heap := h', toks := tk } :=
    S.write_own (o₂ := ⟨[], [], fun _ => True⟩) _ (fun b o hb e => hk b o (fun q => hb (q ▸ List.mem_cons_self ..)) (fun q => hb (q ▸ List.mem_cons_of_mem _ (List.mem_cons_self ..)))
    (fun d hd q => hb (q ▸ List.mem_cons_of_mem _ (List.mem_cons_of_mem _ (List.mem_map_of_mem hd)))) e) rfl gid ⟨fun _ h => h, fun _ _ _ _ => trivial, fun _ _ b h => by cases h⟩ trivial (fun b hb => by cases hb) (fun b hb => by cases hb)
  exact this.drop

theorem zip_it {w : World} {dl : List Dr} {dsl : List (List D)} {z TI TO : Addr} {hbI : Heap} {n : Nat} (hds : dl.map (·.ds) = dsl) (hok : ∀ d ∈ dl, DrOk hbI d) (hap : Zap dl z TI TO) (hne : dsl ≠ []) (hge : ∀ ds ∈ dsl, n ≤ ds.length)
    (hex : ∃ ds ∈ dsl, ds.length = n) (hsz : dsl.length ≤ 1000) : ItOk w (.ref z) n hbI (zOwn dl z TI TO) (fun i hb v => SeqV "tuple" (rowD dsl i) hb v) := by
  refine ⟨fun c hc i s hb ρ O hi hle S E => ?_, fun c hc s hb ρ O hle S E => ?_, fun c hc i s hb ρ O S E Q hQ => ?_⟩
  · subst hc; exact zip_step hds hok hap hne hge hsz hi hle S
  · subst hc; exact zip_stop (.inl S.ok.room.han) hds hok hap hne hge hex hsz S
  · obtain ⟨k1, k2, k3, k4⟩ := S.own _ (List.mem_cons_self ..)
    exact pyIter_zip k2 hQ
end Mine
end

/-! ## F22 -/
section
namespace Mine

theorem St.around {c : Ctx} {ρ : Rho} {O : List Own} {hb : Heap} {s : Shared} (S : St c ρ O hb s) (A' : Around) (n' : Nat) (hR : Room n' A' c.l) : St { c with A := A', n := n' } ρ O hb s :=
  { ok := { S.ok with room := hR }, base := S.base, env := S.env, loc := S.loc, cells := S.cells, cellsA := S.cellsA, own := fun o ho => let ⟨a, b, e, f⟩ := S.own o ho; ⟨a, b, e, fun b hb => { f b hb with }⟩, disj := S.disj, pers := S.pers, ext := S.ext }
theorem Room.in1 {n : Nat} {A : Around} {l : List Env} (R : Room (n + 1) A l) (k : Nat) (hk : k ≤ 16) (A' : Around) (h1 : A'.handled = A.handled) (h2 : A'.frames = A.frames) (h3 : A'.depth = A.depth) (h4 : A'.units = A.units + k) : Room n A' l :=
  ⟨h1.trans R.han, h2.trans R.fr, by rw [h3]; have := R.dep; omega, by rw [h4]; have := R.un; omega⟩

/-- an expression that gives an iterator of kind T -/
def JX (c : Ctx) (ρ : Rho) (O : List Own) (t : Sem Value) (T : String) (n : Nat) (R : Nat → Heap → Value → Prop) : Prop :=
  ∀ s hb, St c ρ O hb s → ∀ E, wpAny (MM c.w) c.A t (fun it s₂ => ∃ hb' W a, it = .ref a ∧ Ext c.l s hb s₂ hb' ∧ ItOk c.w it n hb' W R ∧
    (∀ i, (W i).Ok) ∧ (W 0).p s₂.heap ∧ (∀ b ∈ (W 0).fp, b ∈ (W 0).wr ∨ ∃ ob, hb'.get? b = some ob) ∧ (∀ b ∈ (W 0).wr, s.heap.get? b = none ∧ hb'.get? b = none) ∧ (∀ i h, (W i).p h → ∃ o, h.get? a = some o ∧ o.cls = .type T) ∧ a ∈ (W 0).wr) E s

section
variable {c : Ctx} {ρ ρ' : Rho} {O O' : List Own} {hb hb' : Heap} {s s' : Shared}

theorem JX.ix {t : Sem Value} {T : String} {n : Nat} {R : Nat → Heap → Value → Prop} (h : JX c ρ O t T n R) : IX c ρ O t n R := by
  intro s hb S E
  refine wpAny_mono (h s hb S E) (fun it s₂ ⟨hb', W, a, ha, X, I, hok, hp, hfp, hwr, hT, haw⟩ => ?_) fun _ _ e => e
  have S₂ : St c ρ (W 0 :: O) hb' s₂ := St.take S (S.step X) (hok 0) hp hfp (fun b h => (hwr b h).1) (fun b h => (hwr b h).2)
  exact I.self c rfl 0 s₂ hb' ρ O S₂ _ _ ⟨hb', W, X, I, hok, hp, hfp, hwr⟩

/-- a zip just made is taken in hand -/
theorem zip_taken {dl : List Dr} {dsl : List (List D)} {h' : Heap} {z TI TO : Addr} {hb₂ : Heap} {s₂ : Shared} (S₂ : St c ρ O hb₂ s₂) (hds : dl.map (·.ds) = dsl) (hok : ∀ d ∈ dl, DrOk hb₂ d) (hap : Zap dl z TI TO) (hst : Zs dl z TI TO 0 h') (hfp : ∀ d ∈ dl, ∀ b ∈ d.fp, b = d.it ∨ ∃ ob, hb₂.get? b = some ob)
    (hle : Le s₂.heap h') (nz : s₂.heap.get? z = none) (nTI : s₂.heap.get? TI = none) (nTO : s₂.heap.get? TO = none) (nit : ∀ d ∈ dl, s₂.heap.get? d.it = none) :
    ∃ hb', Ext c.l s₂ hb₂ { s₂ with heap := h' } hb' ∧ Le hb₂ hb' ∧ (∀ b ∈ (zOwn dl z TI TO 0).fp, b ∈ (zOwn dl z TI TO 0).wr ∨ ∃ ob, hb'.get? b = some ob) ∧ ∀ b ∈ (zOwn dl z TI TO 0).wr, s₂.heap.get? b = none ∧ hb'.get? b = none := by
  have x₃ := S₂.same (s' := { s₂ with heap := h' }) ⟨h', s₂.toks, rfl, hle⟩
  obtain ⟨x₄, k₄⟩ := x₃.add nTI
  have noff : ∀ b, b ≠ TI → s₂.heap.get? b = none → (addH hb₂ TI h').get? b = none := fun b h1 h2 => only_none (by
    rintro (⟨o, e⟩ | e)
    · rw [S₂.base.le _ _ e] at h2; cases h2
    · exact h1 e)
  have hTI : h'.get? TI = some (tObj (dl.map fun d => Value.ref d.it).toArray 0) := hst.ti
  refine ⟨addH hb₂ TI h', x₄, k₄, ?_, ?_⟩
  · intro b hb
    rcases List.mem_cons.mp hb with rfl | hb
    · exact .inl (List.mem_cons_self ..)
    · rcases List.mem_cons.mp hb with rfl | hb
      · exact .inl (List.mem_cons_of_mem _ (List.mem_cons_self ..))
      · rcases List.mem_cons.mp hb with rfl | hb
        · exact .inr ⟨_, only_get.mpr ⟨.inr rfl, hTI⟩⟩
        · obtain ⟨d, hd, hbd⟩ := List.mem_flatMap.mp hb
          rcases hfp d hd b hbd with rfl | ⟨o, e⟩
          · exact .inl (List.mem_cons_of_mem _ (List.mem_cons_of_mem _ (List.mem_map_of_mem hd)))
          · exact .inr ⟨o, k₄ _ _ e⟩
  · intro b hb
    rcases List.mem_cons.mp hb with rfl | hb
    · exact ⟨nz, noff _ (Ne.symm hap.tiz) nz⟩
    · rcases List.mem_cons.mp hb with rfl | hb
      · exact ⟨nTO, noff _ (Ne.symm hap.tito) nTO⟩
      · obtain ⟨d, hd, rfl⟩ := List.mem_map.mp hb
        exact ⟨nit d hd, noff _ (hap.out d hd).2.2.1 (nit d hd)⟩

theorem JX.zip {x : Str} {p pos : Pos} {args : List Expr} {ds : List D} {dsl : List (List D)} {n : Nat} (hx : EX c ρ O (.Name x p) (.raw (.type "zip"))) (ha : ArgX c ρ O args [] ds []) (hi : ItbL ds dsl) (hl : ds.length ≤ 5)
    (hne : dsl ≠ []) (hge : ∀ ds ∈ dsl, n ≤ ds.length) (hex : ∃ ds ∈ dsl, ds.length = n) :
    JX c ρ O (eval (.Call (.Name x p) args [] pos) c.env) "zip" n (fun i hb v => SeqV "tuple" (rowD dsl i) hb v) := by
  intro s hb S E
  refine wpAny_Call_Name_kw (wpx S hx fun v s₁ hb₁ x₁ S₁ r₁ => ?_)
  cases r₁
  refine callWith_gen (wpx S₁ (ha _ _) fun a s₂ hb₂ x₂ S₂ r₂ => ⟨⟨_, .of_pure rfl⟩, ?_⟩)
  obtain ⟨pos', kw⟩ := a
  obtain ⟨hv, hk⟩ := r₂
  cases hk
  refine call_zip hv hi S₂.base.le hl fun dl h' z TI TO hds hok hap hst hfp hle nz nTI nTO nit => ?_
  have hlen : dsl.length = ds.length := by
    clear hge hex hne ha hl hv hds
    induction hi with
    | nil => rfl
    | cons _ _ ih => simp [ih]
  obtain ⟨hb', X, k₄, hf, hw⟩ := zip_taken S₂ hds hok hap hst hfp hle nz nTI nTO nit
  refine ⟨hb', zOwn dl z TI TO, z, rfl, (x₁.trans S.base x₂).trans S.base X, ?_, zOwn_ok hok hap, hst, hf, fun b hb => ⟨(x₁.trans S.base x₂).kp.none S.base.tab (hw b hb).1, (hw b hb).2⟩, fun i h hp => ?_, List.mem_cons_self ..⟩
  · have I := zip_it (w := c.w) hds hok hap hne hge hex (by omega)
    exact ⟨fun c' hc i s hb ρ O hi hle S E => I.step c' hc i s hb ρ O hi (fun b o e => hle b o (k₄ b o e)) S E, fun c' hc s hb ρ O hle S E => I.done c' hc s hb ρ O (fun b o e => hle b o (k₄ b o e)) S E, I.self⟩
  · obtain ⟨⟨f0, b, hz, _⟩, _⟩ := hp
    exact ⟨_, hz, rfl⟩
end
end Mine
end

/-! ## F23 -/
section
namespace Mine

theorem zip_no_len : typeLookup (.type "zip") "__len__" = pure none := by rw [typeLookup_type, builtinLookup_eq_fast]; kernel_rfl
theorem zip_no_hint : typeLookup (.type "zip") "__length_hint__" = pure none := by rw [typeLookup_type, builtinLookup_eq_fast]; kernel_rfl

/-- the block, from here on: nothing that stands is written -/
def subC (c : Ctx) (s : Shared) (hb : Heap) : Ctx := { c with lo := c.l, s₀ := s, hb₀ := hb, wn := fun _ => false, wl := false }
theorem St.sub {c : Ctx} {ρ : Rho} {O : List Own} {hb : Heap} {s : Shared} (S : St c ρ O hb s) : St (subC c s hb) ρ [] hb s  where
  ok := ⟨S.ok.room, S.ok.kind, S.ok.glob, S.ok.bi, fun b hb => hb, fun b hb => .inl hb, S.ok.pup, S.base.tab⟩
  base := S.base
  env := S.env
  loc := ⟨S.loc.1, S.loc.2.1, fun h => by cases h⟩
  cells := fun n a h => let ⟨h1, h2, h3, _⟩ := S.cells n a h; ⟨h1, h2, h3, fun h => by cases h⟩
  cellsA := fun _ _ _ h => by cases h
  own := fun o ho => by cases ho
  disj := .nil
  pers := S.pers
  ext := .refl S.base

section
variable {c : Ctx} {ρ ρ' : Rho} {O O' : List Own} {hb hb' : Heap} {s s' : Shared}

theorem extend_loop {A : Around} (R₀ : Room 0 A.in1 c.l) {I : Value} {n : Nat} {hbI : Heap} {W : Nat → Own} {R : Nat → Heap → Value → Prop} {g : Nat → PyData} (It : ItOk c.w I n hbI W R) (hok : ∀ i, (W i).Ok) (hR : ∀ i hb v, i < n → R i hb v → V hb v (.py (g i))) (hn : n ≤ 100000) {S : Addr} {res : Value}
    {RR : Result → Shared → Prop} : ∀ (k i : Nat) (s : Shared) (hb : Heap) (acc : List Value), n - i = k → i ≤ n → Le hbI hb → St { c with A := A.in1, n := 0 } ρ (W i :: accOwn S acc :: O) hb s → VL hb acc (((List.range i).map g).map .py) →
      (∀ s' hb' acc', Le hb hb' → St { c with A := A.in1, n := 0 } ρ (accOwn S acc' :: O) hb' s' → VL hb' acc' (((List.range n).map g).map .py) → RR (.ok (.ret res)) s') →
      codeAny (MM c.w) A (.builtin "list.extend.loop" ⟨[.ref S, I, res], []⟩) RR s := by
  intro k
  induction k with
  | zero =>
    intro i s hb acc hk hi hle St' hacc hRR
    have hin : i = n := by omega
    subst hin
    refine codeAny_builtin F.entry_extend_loop ?_
    rw [Around.under_plainId F.plain_extend_loop _]
    show wpAny _ A.in1 (pyNext I >>= _) _ _ s
    refine wpAny_bind (wpAny_mono (It.done { c with A := A.in1, n := 0 } rfl s hb ρ _ hle St' _) (fun r s₁ ⟨hb₁, hr, hle₁, S₁⟩ => ?_) fun _ _ e => e)
    subst hr
    exact wpAny_pure (hRR s₁ hb₁ acc hle₁ S₁ (hacc.up hle₁))
  | succ k ih =>
    intro i s hb acc hk hi hle St' hacc hRR
    have hlt : i < n := by omega
    refine codeAny_builtin F.entry_extend_loop ?_
    rw [Around.under_plainId F.plain_extend_loop _]
    show wpAny _ A.in1 (pyNext I >>= _) _ _ s
    refine wpAny_bind (wpAny_mono (It.step { c with A := A.in1, n := 0 } rfl i s hb ρ _ hlt hle St' _) (fun r s₁ ⟨v, hb₁, hr, hle₁, S₁, hv⟩ => ?_) fun _ _ e => e)
    subst hr
    have S₂ := S₁.swap
    obtain ⟨k1, ⟨c0, k2⟩, k3, k4⟩ := S₂.own _ (List.mem_cons_self ..)
    have hlen : acc.length = i := by rw [hacc.length]; simp
    show wpAny _ A.in1 (updateSeq S (·.push v) >>= _) _ _ _
    refine wpAny_bind (wpAny_updateSeq k2 rfl (hz := by rw [List.size_toArray, sizeLine_eq]; omega) (_hz' := by rw [Array.size_push, List.size_toArray, sizeLine_eq]; omega) ?_)
    refine wpAny_pure ⟨plainId_quiet F.plain_extend_loop _, ?_⟩
    refine ih (i + 1) _ hb₁ (acc ++ [v]) (by omega) hlt (fun b o e => hle₁ b o (hle b o e)) (St.swap (S₂.write_own (o₂ := accOwn S (acc ++ [v])) _ (fun b o hb e => ?_) rfl gid (accOwn_ok _ _) ?_ (fun b h => h) fun b h => .inl h)) ?_ fun s' hb' acc' hle' => hRR s' hb' acc' fun b o e => hle' b o (hle₁ b o e)
    · exact (Heap.SameBut.update ..).extBut b o (fun q => hb (q ▸ List.mem_cons_self ..)) e
    · refine ⟨c0 + 1, ?_⟩
      have := Heap.get?_update_self (h := s₁.heap) (Obj.mapSeq (·.push v)) k2 (by rw [Obj.mapSeq_push_plain]; rfl)
      rw [Obj.mapSeq_push_plain] at this
      simpa using this
    · rw [List.range_succ, List.map_append, List.map_append]
      exact (hacc.up hle₁).append (.cons (hR i hb₁ v hlt hv) .nil)

theorem FX.listOf {x : Str} {p pos : Pos} {e : Expr} {T : String} {n : Nat} {R : Nat → Heap → Value → Prop} {g : Nat → PyData} (hx : EX c ρ O (.Name x p) (.raw (.type "list"))) (h : JX c ρ O (eval e c.env) T n R)
    (hno : typeLookup (.type T) "__len__" = pure none) (hnh : typeLookup (.type T) "__length_hint__" = pure none) (hT : T ≠ "list" ∧ T ≠ "tuple")
    (hR : ∀ i hb v, i < n → R i hb v → V hb v (.py (g i))) (hn : n ≤ 100000) (hcn : 1 ≤ c.n) (he : starEach [e] c.env = [(false, eval e c.env)] := by rfl) :
    FX c ρ O (eval (.Call (.Name x p) [e] [] pos) c.env) ((List.range n).map g) := by
  intro s hb S E
  refine wpAny_Call_Name_kw (wpx S hx fun v s₁ hb₁ x₁ S₁ r₁ => ?_)
  cases r₁
  rw [he]
  refine callWith_gen (Calls.evalArgs_plain (Calls.spliced_cons (wpAny_mono (h s₁ hb₁ S₁ E) (fun it s₂ ⟨hb₂, W, a, ha, X, I, hok, hp, hfp, hwr, hTy, haw⟩ => Calls.spliced_nil ⟨⟨_, .of_pure rfl⟩, ?_⟩) fun _ _ e => e)))
  subst ha
  have S₁' := S₁.sub
  have S₂ : St (subC c s₁ hb₁) ρ [W 0] hb₂ s₂ := St.take S₁' (S₁'.step X) (hok 0) hp hfp (fun b h => (hwr b h).1) (fun b h => (hwr b h).2)
  obtain ⟨n', hn'⟩ : ∃ n', c.n = n' + 1 := ⟨c.n - 1, by omega⟩
  have hroom := S.ok.room
  rw [hn'] at hroom
  refine callType_codes (Q₁ := fun obj s₃ => obj = .ref s₂.heap.objs.size ∧ s₃ = { s₂ with heap := s₂.heap.push { cls := .type "list", data := .seq #[] } }) F.called_list (F.typeCall_list_1 _) F.entry_list_init
    (code_list_new _ ⟨rfl, rfl⟩) fun obj s₃ h₃ => ?_
  obtain ⟨rfl, rfl⟩ := h₃
  have hSn : s₂.heap.get? s₂.heap.objs.size = none := fresh_size _
  have hSb : hb₂.get? s₂.heap.objs.size = none := by
    cases q : hb₂.get? s₂.heap.objs.size with
    | none => rfl
    | some o => rw [S₂.base.le _ _ q] at hSn; cases hSn
  have hS : (s₂.heap.push { cls := .type "list", data := .seq #[] }).get? s₂.heap.objs.size = some { cls := .type "list", data := .seq #[] } := Heap.get?_push_size _ rfl
  have hSa : s₂.heap.objs.size ≠ a := by
    obtain ⟨o, ho, _⟩ := hTy 0 _ hp
    exact Nat.ne_of_gt (Heap.lt_size ho)
  have x₃ := S₂.same (keeps_push s₂ { cls := .type "list", data := .seq #[] } s₂.toks)
  have S₃ : St (subC c s₁ hb₁) ρ (accOwn s₂.heap.objs.size [] :: [W 0]) hb₂ { s₂ with heap := s₂.heap.push { cls := .type "list", data := .seq #[] } } :=
    St.take S₂ (S₂.step x₃) (accOwn_ok _ _) ⟨0, hS⟩ (fun b h => .inl h) (fun b h => by
      rcases List.mem_cons.mp h with rfl | h
      · exact hSn
      · cases h) (fun b h => by
      rcases List.mem_cons.mp h with rfl | h
      · exact hSb
      · cases h)
  refine ⟨⟨_, hS, rfl⟩, F.args_list_init_2 _ _, ?_⟩
  generalize hSS : s₂.heap.objs.size = S' at *
  -- list.__init__
  show wpAny _ c.A.in1.in1 (do let old ← Builtin.List.listItems (.ref S'); Builtin.List.listUpdate (.ref S') (fun _ => #[]); letGo old.toList.reverse; Builtin.List.listExtendWith (.ref S') (.ref a) .none) _ _ _
  refine wpAny_bind ?_
  unfold Builtin.List.listItems
  refine wpAny_bind (wpAny_seqItems hS rfl (wpAny_pure ?_))
  show wpAny _ _ (updateSeq S' (fun _ => #[]) >>= fun _ => letGo (#[] : Array Value).toList.reverse >>= fun _ => Builtin.List.listExtendWith (.ref S') (.ref a) .none) _ _ _
  refine wpAny_bind (wpAny_updateSeq hS rfl ?_)
  refine wpAny_bind (wpAny_letGo ?_)
  have keep1 : ∀ (f : Obj → Obj) (h : Heap) (b : Addr) (o : Obj), b ∉ (accOwn S' []).wr → h.get? b = some o → (h.update S' f).get? b = some o := fun f h b o hb e => (Heap.SameBut.update ..).extBut b o (fun q => hb (q ▸ List.mem_cons_self ..)) e
  have S₄ : St (subC c s₁ hb₁) ρ (accOwn S' [] :: [W 0]) hb₂ { s₂ with heap := (s₂.heap.push { cls := .type "list", data := .seq #[] }).update S' (Obj.mapSeq fun _ => (#[] : Array Value)) } :=
    S₃.write_own (o₂ := accOwn S' []) _ (keep1 _ _) rfl gid (accOwn_ok _ _) ⟨0, Heap.get?_update_self _ hS rfl⟩ (fun b h => h) fun b h => .inl h
  unfold Builtin.List.listExtendWith
  obtain ⟨oa, hoa, hca⟩ := hTy 0 _ (S₄.own (W 0) (List.mem_cons_of_mem _ (List.mem_cons_self ..))).2.1
  refine wpAny_bind (wpAny_typeOf (T := T) ⟨oa, hoa, hca⟩ ?_)
  have h1 : Builtin.List.listSameRef (.ref S') (.ref a) = false := by simp [Builtin.List.listSameRef, hSa]
  have h2 : (Value.type T == Value.type "list") = false := by simp [hT.1]
  have h3 : (Value.type T == Value.type "tuple") = false := by simp [hT.2]
  simp only [h1, h2, h3, Bool.or_false, Bool.false_eq_true, if_false]
  have hR2 : Room n' c.A.in1.in1 c.l := hroom.in1 2 (by decide) c.A.in1.in1 rfl rfl rfl rfl
  refine wpAny_bind (I.self { subC c s₁ hb₁ with A := c.A.in1.in1, n := n' } rfl 0 _ hb₂ ρ _ (St.around S₄.swap _ _ hR2) _ _ ?_)
  refine wpAny_bind (wpAny_holding ?_)
  unfold Builtin.List.listLengthHint
  refine wpAny_bind (wpAny_specialOf (T := T) ⟨oa, hoa, hca⟩ hno ?_)
  show wpAny _ _ (specialOf (Value.ref a) (Str.ofString "__length_hint__") >>= _) _ _ _
  refine wpAny_bind (wpAny_specialOf (T := T) ⟨oa, hoa, hca⟩ hnh ?_)
  refine wpAny_pure ?_
  show wpAny _ _ (rule "list.extend.makes-room" >>= fun _ => Builtin.List.listTouch (.ref S') >>= fun _ =>
    again (.builtin "list.extend.loop" ⟨[.ref S', .ref a, .none], []⟩)) _ _ _
  refine wpAny_bind (wpAny_rule ?_)
  refine wpAny_bind ?_
  show wpAny _ _ (updateSeq S' (·.push .none) >>= fun _ => updateSeq S' (·.pop)) _ _ _
  have hS₄ := Heap.get?_update_self (Obj.mapSeq (fun _ => (#[] : Array Value))) hS rfl
  refine wpAny_bind (wpAny_updateSeq hS₄ rfl ?_)
  have hS₅ := Heap.get?_update_self (Obj.mapSeq (·.push Value.none)) hS₄ rfl
  refine wpAny_updateSeq (hz := by seq_fits) hS₅ rfl ?_
  have hS₆ := Heap.get?_update_self (Obj.mapSeq (·.pop)) hS₅ rfl
  have S₆ : St (subC c s₁ hb₁) ρ (accOwn S' [] :: [W 0]) hb₂ { s₂ with heap := (((s₂.heap.push { cls := .type "list", data := .seq #[] }).update S' (Obj.mapSeq fun _ => (#[] : Array Value))).update S' (Obj.mapSeq (·.push Value.none))).update S' (Obj.mapSeq (·.pop)) } :=
    S₄.write_own (o₂ := accOwn S' []) _ (fun b o hb e => keep1 _ _ b o hb (keep1 _ _ b o hb e)) rfl gid (accOwn_ok _ _) ⟨_, hS₆⟩ (fun b h => h) fun b h => .inl h
  have hR3 : Room 0 c.A.in1.in1 c.l := (hroom.in1 2 (by decide) c.A.in1.in1 rfl rfl rfl rfl).less (Nat.zero_le _)
  refine wpAny_pure ⟨plainId_quiet F.plain_extend_loop _, ?_⟩
  refine extend_loop (c := subC c s₁ hb₁) (A := c.A.in1) hR3 I hok hR hn n 0 _ hb₂ [] rfl (Nat.zero_le _) (fun _ _ e => e) (St.around S₆.swap _ _ hR3) .nil fun s' hb' acc' hle' Sf hacc' => ?_
  obtain ⟨k1, k2, k3, k4⟩ := Sf.own _ (List.mem_cons_self ..)
  have hoff := k4 S' (List.mem_cons_self ..)
  exact ⟨rfl, hb', S', acc', rfl, x₁.trans S.base Sf.ext, x₁.kp.none S.base.tab hoff.s₀, hoff.hb, k2, hacc'⟩
end
end Mine
end

/-! ## F24 -/
section
namespace Mine

theorem EX.conv {c : Ctx} {ρ : Rho} {O : List Own} {e : Expr} {d d' : D} (h : EX c ρ O e d) (he : d = d') : EX c ρ O e d' := he ▸ h

section
variable {c : Ctx} {ρ ρ' : Rho} {O O' : List Own} {hb hb' : Heap} {s s' : Shared}

theorem rngD_get {n i : Nat} {d : D} (h : (rngD 0 n)[i]? = some d) : i < n ∧ d = .py (.int i) := by
  simp only [rngD, rng, List.getElem?_map, Option.map_eq_some_iff] at h
  obtain ⟨a, ⟨b, hb, rfl⟩, rfl⟩ := h
  have hi := (List.getElem?_eq_some_iff.mp hb).1
  simp at hi
  have : b = i := by
    have := (List.getElem?_eq_some_iff.mp hb).2
    simpa using this.symm
  subst this
  exact ⟨by omega, by simp⟩
theorem rngD_len {n : Nat} : (rngD 0 n).length = n := by simp [rngD, rng]

/-- a comprehension over range(n), without tests -/
theorem FX.compRange {scope : Scope} (ns : List Str) {elt iter : Expr} {x : Str} {px : Pos} {pos : Pos} {n : Nat} {g : Nat → PyData}
    (hr : TX c ρ O (eval iter c.env) (RgV 0 n)) (hn : n ≤ 100000)
    (helt : ∀ C s hb O i, i < n → EX (cctx c scope C s hb) (put (keepNames ns ρ) x (.py (.int i))) O elt (.py (g i)))
    (hfree : scope.names.all (fun x => x.2 != .free || (c.env.cells.lookup x.1).isSome) = true := by rfl) (hkind : scope.kind = .function := by rfl) (hnames : ∀ x ∈ scope.names, x.2 = .local → scope.names.lookup x.1 = some .local := by decide)
    (hvis : ∀ y ∈ ns, Vis c scope y) (hx : ∀ C s hb, Sto (cctx c scope C s hb) x)
    (hs : ∀ x, foldedSetIterable iter c.env x = pure x := by intro _; rfl) :
    FX c ρ O (eval (.ListComp elt [⟨.Name x px, iter, [], 0⟩] scope pos) c.env) ((List.range n).map g) := by
  have := FX.comp (c := c) (ρ := ρ) (O := O) (px := px) (pos := pos) (ds := rngD 0 n) (ns := ns) (p := fun _ => true) (g := g) (ifs := []) (by
      have h := IX.range hr (by decide) (by decide) (by omega) (by omega)
      rw [rngD_len]; simpa using h) (by rw [rngD_len, sizeLine_eq]; omega) hfree hkind hnames hvis hx (fun C s hb O i d hd => TX.noTests) (fun C s hb O i d hd _ => by
      obtain ⟨h1, rfl⟩ := rngD_get hd
      exact helt C s hb O i h1) hs
  rw [rngD_len, List.filter_eq_self.mpr (fun _ _ => rfl)] at this
  exact this
/-- a comprehension over items, without tests -/
theorem FX.compItems {scope : Scope} (ns : List Str) {elt iter : Expr} {x : Str} {px : Pos} {pos : Pos} {ds : List D} {g : Nat → PyData}
    (hit : IX c ρ O (eval iter c.env) ds.length (Items ds)) (hn : ds.length ≤ 100000)
    (helt : ∀ C s hb O i d, ds[i]? = some d → EX (cctx c scope C s hb) (put (keepNames ns ρ) x d) O elt (.py (g i)))
    (hfree : scope.names.all (fun x => x.2 != .free || (c.env.cells.lookup x.1).isSome) = true := by rfl) (hkind : scope.kind = .function := by rfl) (hnames : ∀ x ∈ scope.names, x.2 = .local → scope.names.lookup x.1 = some .local := by decide)
    (hvis : ∀ y ∈ ns, Vis c scope y) (hx : ∀ C s hb, Sto (cctx c scope C s hb) x)
    (hs : ∀ x, foldedSetIterable iter c.env x = pure x := by intro _; rfl) :
    FX c ρ O (eval (.ListComp elt [⟨.Name x px, iter, [], 0⟩] scope pos) c.env) ((List.range ds.length).map g) := by
  have := FX.comp (c := c) (ρ := ρ) (O := O) (px := px) (pos := pos) (ds := ds) (ns := ns) (p := fun _ => true) (g := g) (ifs := []) hit (by rw [sizeLine_eq]; omega) hfree hkind hnames hvis hx (fun C s hb O i d hd => TX.noTests) (fun C s hb O i d hd _ => helt C s hb O i d hd) hs
  rw [List.filter_eq_self.mpr (fun _ _ => rfl)] at this
  exact this
theorem vis_nil {scope : Scope} : ∀ y ∈ ([] : List Str), Vis c scope y := fun y h => by cases h
theorem vis_cons {scope : Scope} {y : Str} {ns : List Str} (h : Vis c scope y) (hs : ∀ z ∈ ns, Vis c scope z) : ∀ z ∈ y :: ns, Vis c scope z := fun z hz => by
  rcases List.mem_cons.mp hz with rfl | hz
  · exact h
  · exact hs z hz
theorem vis {scope : Scope} {y : Str} {a : Addr} (h1 : c.env.cells.lookup y = some a) (h2 : c.env.kindOf y = some .cell) (h3 : ∀ C, (cellsFrom (C + 1) scope.names (clos c.env.cells scope.names [])).lookup y = some a)
    (h4 : (relabel scope c.env).names.lookup y = some .cell) : Vis c scope y := ⟨a, h1, .inl h2, h3, .inl h4⟩
theorem visF {scope : Scope} {y : Str} {a : Addr} (h1 : c.env.cells.lookup y = some a) (h2 : c.env.kindOf y = some .free) (h3 : ∀ C, (cellsFrom (C + 1) scope.names (clos c.env.cells scope.names [])).lookup y = some a)
    (h4 : (relabel scope c.env).names.lookup y = some .free) : Vis c scope y := ⟨a, h1, .inr h2, h3, .inr h4⟩
theorem stoL {x : Str} (h1 : c.wl = true) (h2 : c.env.kindOf x = some .local) : Sto c x := .inl ⟨h1, h2⟩
theorem stoC {x : Str} {a : Addr} (h1 : c.wn x = true) (h2 : c.env.kindOf x = some .cell) (h3 : c.env.cells.lookup x = some a) : Sto c x := .inr ⟨h1, h2, a, h3⟩
end
end Mine
end

/-! ## C3 -/
section
namespace Mine

/-- all pieces of so many neighbours -/
def win (xs : List PyData) (n : Nat) : List PyData := (List.range (xs.length + 1 - n)).map fun i => .tuple ((xs.drop i).take n)


theorem rowD_win (xs : List PyData) (n i : Nat) (h : i + n ≤ xs.length) : rowD ((List.range n).map fun k => (xs.drop k).map D.py) i = ((xs.drop i).take n).map .py := by
  apply List.ext_getElem
  · simp [rowD]; omega
  · intro k h1 h2
    simp only [rowD, List.length_map, List.length_range] at h1
    have hk : k + i < xs.length := by omega
    have hk' : i + k < xs.length := by omega
    simp only [rowD, List.getElem_map, List.getElem_range, List.getElem_take, List.getElem_drop]
    rw [List.getD_eq_getElem?_getD, List.getElem?_map, List.getElem?_drop, List.getElem?_eq_getElem hk]
    simp [Nat.add_comm]
theorem ItbL.map {α : Type} {f : α → D} {g : α → List D} : ∀ {l : List α}, (∀ k ∈ l, Itb (f k) (g k)) → ItbL (l.map f) (l.map g)
  | [], _ => .nil
  | a :: l, h => .cons (h a (List.mem_cons_self ..)) (ItbL.map fun k hk => h k (List.mem_cons_of_mem _ hk))

theorem strSlice_from (x : Str) (i : Nat) (hi : i ≤ x.length) : (Txt.slice x (some i) none).cps.toList = x.cps.toList.drop i := by
  have h := PyProof.Rows.slice_from_eq (x := x) (i := (i : Int)) (b := x.length) (by omega) (by omega) rfl
  rw [h]
  simp only [Int.toNat_natCast]
  have e : ((x.length : Int) - (i : Int)).toNat = x.length - i := by omega
  rw [e, List.take_of_length_le]
  rw [List.length_drop, Array.length_toList]
  exact Nat.le_refl _
theorem signsD_slice (x : Str) (i : Nat) (hi : i ≤ x.length) : signsD (Txt.slice x (some i) none) = (signsD x).drop i := by
  unfold signsD
  rw [strSlice_from x i hi, List.map_drop]
theorem ascii_of {x y : Str} (h : ∀ k ∈ x.cps.toList, k ∈ y.cps.toList) (ha : y.cps.all (· < 128) = true) : x.cps.all (· < 128) = true := by
  rw [Array.all_eq_true] at ha ⊢
  intro i hi
  have hm : x.cps[i] ∈ x.cps.toList := by simp
  obtain ⟨j, hj, e⟩ := List.mem_iff_getElem.mp (h _ hm)
  have := ha j (by simpa using hj)
  simp only [Array.getElem_toList] at e
  rw [← e]; exact this
theorem signsD_len (x : Str) : (signsD x).length = x.length := by simp [signsD]; rfl

section
variable {c : Ctx} {ρ ρ' : Rho} {O O' : List Own} {hb hb' : Heap} {s s' : Shared}

theorem b_find_ngrams {w : World} {k : Nat} {A : Around} {l : List Env} {s₀ : Shared} {hb₀ : Heap} {L : Addr} {x : Str} {n : Nat} (ha : x.cps.all (· < 128) = true) (hx : x.length ≤ 1000) (h1 : 1 ≤ n) (hn : n ≤ 5) :
    SB (fctx w (k + 1) A l s₀ hb₀ fd_26 L 26 (Gd w)) (rho [("input_list", .py (.str x)), ("n", .py (.int n))] ρ0) [] (dBody d_find_ngrams) (fun o => o = .ret (.py (.list (win (signsD x) n)))) := by
  refine SB.ret (d := .py (.list (win (signsD x) n))) ?_ rfl
  refine EX.conv (FX.ex (FX.listOf (g := fun i => .tuple (((signsD x).drop i).take n)) (EX.builtin rfl (fun _ => by rfl) rfl) (JX.zip (n := x.length + 1 - n) (EX.builtin rfl (fun _ => by rfl) rfl)
    (ArgX.lone (FX.ex (FX.compRange ["input_list"] (n := n) (g := fun i => .str (Txt.slice x (some i) none)) ?hr (by omega) ?helt (hvis := vis_cons (vis rfl rfl (fun _ => rfl) rfl) vis_nil) (hx := fun _ _ _ => stoL rfl rfl))) (.inl rfl) ?hsz)
    (dsl := (List.range n).map fun k => ((signsD x).drop k).map .py) ?hi ?hl ?hne ?hge ?hex) zip_no_len zip_no_hint (by decide) ?hR ?hm (by show 1 ≤ k + 1; omega))) ?heq
  case hr => exact TX.callName (EX.builtin rfl (fun _ => by rfl) rfl) (.plain (.cons (EX.name (d := .py (.int n)) rfl) .nil)) FnC.range1 (Nat.zero_le _) (fun _ _ g => g) Keeps?.type
  case helt => exact fun C s hb O i hi => EX.slice_str (EX.name rfl) (PX.some (EX.name rfl)) PX.none (by rw [sizeLine_eq]; omega)
  case hsz => simp [sizeLine_eq]; omega
  case hl => simp; exact hn
  case hne => simp; omega
  case hge =>
    intro ds hds
    simp only [List.mem_map, List.mem_range] at hds
    obtain ⟨k, hk, rfl⟩ := hds
    simp [signsD]
    have : x.cps.size = x.length := rfl
    omega
  case hex =>
    refine ⟨_, List.mem_map_of_mem (List.mem_range.mpr (show n - 1 < n by omega)), ?_⟩
    simp [signsD]
    have : x.cps.size = x.length := rfl
    omega
  case hm => omega
  case heq => rw [win, signsD_len]
  case hi =>
    rw [List.map_map]
    refine ItbL.map fun k hk => ?_
    have hk' : k < n := List.mem_range.mp hk
    by_cases hle : k ≤ x.length
    · rw [← signsD_slice x k hle]
      refine Itb.str (ascii_of (fun c hc => ?_) ha)
      rw [strSlice_from x k hle] at hc
      exact List.mem_of_mem_drop hc
    · have e : Txt.slice x (some (k : Int)) none = Str.empty := slice_beyond (by omega)
      have e2 : (signsD x).drop k = signsD Str.empty := by
        rw [List.drop_of_length_le (by rw [signsD_len]; omega)]; rfl
      show Itb (.py (.str (Txt.slice x (some (k : Int)) none))) _
      rw [e, e2]
      exact Itb.str (by decide +kernel)
  case hR =>
    intro i hb v hi hv
    refine SeqV.to_tuple ?_
    rw [rowD_win _ _ _ (by rw [signsD_len]; omega)] at hv
    exact hv
end

theorem two_binds {w : World} {A : Around} {l : List Env} {s : Shared} {hb : Heap} {fd : FuncData} {a b : Str} {d e : D} {ar : Args} (B : Base w l hb s) (ha : VA hb ar [d, e] []) (h : ∀ v u, bindArgs fd ⟨[v, u], []⟩ = pure [(a, v), (b, u)]) (E : Value → Shared → Prop) :
    wpAny (MM w) A (bindArgs fd ar) (fun binds s₁ => ∃ hb₁, Ext l s hb s₁ hb₁ ∧ KL hb₁ binds [(a, d), (b, e)]) E s := by
  obtain ⟨v, u, rfl, h1, h2⟩ := ha.two
  exact wpAny_of_eq (h v u) ⟨hb, .refl B, .cons h1 (.cons h2 .nil)⟩

theorem c_find_ngrams {w : World} {k : Nat} {x : Str} {n : Nat} (ha : x.cps.all (· < 128) = true) (hx : x.length ≤ 1000) (h1 : 1 ≤ n) (hn : n ≤ 5) :
    CoC w (.ref 26) (k + 2) (Gd w) [.py (.str x), .py (.int n)] [] (fun h v => V h v (.py (.list (win (signsD x) n)))) := by
  refine CoC.def isFn_26 (fun _ h => h) (fun _ _ k g => g.up k) (bs := [("input_list", .py (.str x)), ("n", .py (.int n))]) (K := fun o => o = .ret (.py (.list (win (signsD x) n)))) ?_ ?_ (fun A l s₀ hb₀ L => b_find_ngrams ha hx h1 hn) ?_
  · intro y hy
    simp only [List.mem_cons, List.not_mem_nil, or_false] at hy
    rcases hy with rfl | rfl
    · exact .inr ⟨by rfl, fun _ => by rfl⟩
    · exact .inl (by rfl)
  · exact fun A l s hb B hP a ha E => two_binds B ha (fun _ _ => by rfl) E
  · rintro o rfl
    exact .inl ⟨_, rfl, fun h v x => x⟩

theorem cut_from (xs : List PyData) (k : Nat) : cut xs (some (k : Int)) none = xs.drop k := by
  simp only [cut, Option.elim]
  rw [clipAt_nat]
  rcases Nat.le_total k xs.length with h | h
  · rw [Nat.min_eq_left h, List.take_of_length_le (by simp)]
  · rw [Nat.min_eq_right h, List.drop_of_length_le (Nat.le_refl _), List.drop_of_length_le h]; simp
section
theorem b_find_ngramsL {w : World} {k : Nat} {A : Around} {l : List Env} {s₀ : Shared} {hb₀ : Heap} {L : Addr} {x : List PyData} {n : Nat} (hx : x.length ≤ 1000) (h1 : 1 ≤ n) (hn : n ≤ 5) :
    SB (fctx w (k + 1) A l s₀ hb₀ fd_26 L 26 (Gd w)) (rho [("input_list", .py (.list x)), ("n", .py (.int n))] ρ0) [] (dBody d_find_ngrams) (fun o => o = .ret (.py (.list (win x n)))) := by
  refine SB.ret (d := .py (.list (win x n))) ?_ rfl
  refine EX.conv (FX.ex (FX.listOf (g := fun i => .tuple (((x).drop i).take n)) (EX.builtin rfl (fun _ => by rfl) rfl) (JX.zip (n := x.length + 1 - n) (EX.builtin rfl (fun _ => by rfl) rfl)
    (ArgX.lone (FX.ex (FX.compRange ["input_list"] (n := n) (g := fun i => .list (cut x (some i) none)) ?hr (by omega) ?helt (hvis := vis_cons (vis rfl rfl (fun _ => rfl) rfl) vis_nil) (hx := fun _ _ _ => stoL rfl rfl))) (.inl rfl) ?hsz)
    (dsl := (List.range n).map fun k => ((x).drop k).map .py) ?hi ?hl ?hne ?hge ?hex) zip_no_len zip_no_hint (by decide) ?hR ?hm (by show 1 ≤ k + 1; omega))) ?heq
  case hr => exact TX.callName (EX.builtin rfl (fun _ => by rfl) rfl) (.plain (.cons (EX.name (d := .py (.int n)) rfl) .nil)) FnC.range1 (Nat.zero_le _) (fun _ _ g => g) Keeps?.type
  case helt => exact fun C s hb O i hi => EX.slice_list (EX.name rfl) (PX.some (EX.name rfl)) PX.none (by rw [sizeLine_eq]; omega)
  case hsz => simp [sizeLine_eq]; omega
  case hl => simp; exact hn
  case hne => simp; omega
  case hge =>
    intro ds hds
    simp only [List.mem_map, List.mem_range] at hds
    obtain ⟨k, hk, rfl⟩ := hds
    simp
    omega
  case hex =>
    refine ⟨_, List.mem_map_of_mem (List.mem_range.mpr (show n - 1 < n by omega)), ?_⟩
    simp
    omega
  case hm => omega
  case heq => rw [win]
  case hi =>
    rw [List.map_map]
    refine ItbL.map fun k hk => ?_
    show Itb (.py (.list (cut x (some (k : Int)) none))) _
    rw [cut_from]
    exact Itb.list
  case hR =>
    intro i hb v hi hv
    refine SeqV.to_tuple ?_
    rw [rowD_win _ _ _ (by omega)] at hv
    exact hv
end
theorem c_find_ngramsL {w : World} {k : Nat} {x : List PyData} {n : Nat} (hx : x.length ≤ 1000) (h1 : 1 ≤ n) (hn : n ≤ 5) :
    CoC w (.ref 26) (k + 2) (Gd w) [.py (.list x), .py (.int n)] [] (fun h v => V h v (.py (.list (win x n)))) := by
  refine CoC.def isFn_26 (fun _ h => h) (fun _ _ k g => g.up k) (bs := [("input_list", .py (.list x)), ("n", .py (.int n))]) (K := fun o => o = .ret (.py (.list (win x n)))) ?_ ?_ (fun A l s₀ hb₀ L => b_find_ngramsL hx h1 hn) ?_
  · intro y hy
    simp only [List.mem_cons, List.not_mem_nil, or_false] at hy
    rcases hy with rfl | rfl
    · exact .inr ⟨by rfl, fun _ => by rfl⟩
    · exact .inl (by rfl)
  · exact fun A l s hb B hP a ha E => two_binds B ha (fun _ _ => by rfl) E
  · rintro o rfl
    exact .inl ⟨_, rfl, fun h v x => x⟩
end Mine
end

/-! ## F25 -/
section
namespace Mine

section
variable {c : Ctx} {ρ ρ' : Rho} {O O' : List Own} {hb hb' : Heap} {s s' : Shared}

/-! ### truth of values -/
def TrX (d : D) (b : Bool) : Prop := ∀ (w : World) (A : Around) (hb : Heap) (s : Shared) (v : Value), V hb v d → Le hb s.heap → ∀ (E : Value → Shared → Prop) (Q : Bool → Shared → Prop), (∀ tk, Q b { s with toks := tk }) → wpAny (MM w) A (truthy v) Q E s
theorem TrX.none : TrX (.py .none) false := fun w A hb s v hv _ E Q hQ => by obtain rfl := hv.none_inv; exact truthy_none (hQ s.toks)
theorem TrX.bool {b : Bool} : TrX (.py (.bool b)) b := fun w A hb s v hv _ E Q hQ => by obtain rfl := hv.bool_inv; exact wpAny_truthy_bool (hQ s.toks)
theorem TrX.int {i : Int} : TrX (.py (.int i)) (i != 0) := fun w A hb s v hv _ E Q hQ => by
  obtain ⟨t, rfl⟩ := hv.int_inv
  exact PySem.P.truthy_int (hQ s.toks)
theorem TrX.list {xs : List PyData} (hx : xs.length < 2 ^ 62) : TrX (.py (.list xs)) (!xs.isEmpty) := fun w A hb s v hv hle E Q hQ => by
  obtain ⟨a, o, vs, n, rfl, g1, g2, g3, g4⟩ := hv.list_inv
  have hl := g4.length
  simp only [List.length_map, Array.length_toList] at hl
  refine wpAny_truthy_list ⟨o, hle _ _ g1, g2, n, g3⟩ (by omega) ?_
  have e : vs.isEmpty = xs.isEmpty := by
    rw [Array.isEmpty, hl]
    cases xs <;> simp
  rw [e]
  exact hQ _
theorem TR.of {e : Expr} {d : D} {b : Bool} (h : EX c ρ O e d) (ht : TrX d b) (he : ∀ whole : Sem Value, isTrue e c.env whole = (do let v ← whole; standAt e.pos; holding [v] (truthy v)) := by intro _; rfl) : TR c ρ O e b := by
  intro s hb S E
  refine PyProof.Rows.isTrue_plain (wpx S h fun v s₁ hb₁ x₁ S₁ r₁ => ht _ _ hb₁ s₁ v r₁ S₁.base.le _ _ fun tk => ?_) (he _)
  exact ⟨hb₁, x₁.trans S.base (S₁.tok tk), rfl⟩

/-! ### methods of texts -/
theorem strsFrom_VL {hb : Heap} : ∀ (xs : List Str) (tk : Nat), VL hb (strsFrom tk xs) ((xs.map PyData.str).map .py)
  | [], _ => .nil
  | x :: xs, tk => by
    exact .cons V.str (strsFrom_VL (hb := hb) xs (tk + 1))

theorem FnC.split {w : World} {n : Nat} {P : Heap → Prop} {x : Str} (hx : x.length ≤ 1000) : FnC w (.builtin "str.split") n P [.py (.str x)] [] (fun h v => V h v (.py (.list ((Txt.words x).map .str)))) := by
  intro A l s hb R B hP a ha E
  obtain ⟨v, rfl, hv⟩ := ha.one
  obtain ⟨t, rfl⟩ := hv.str_inv
  have hn : (Builtin.Str.spaceWords x (x.length + 1)).length ≤ sizeLine := by
    have e1 := (StrLaws.sw_weight x).1
    have e2 := StrLaws.len_le_wsum (Builtin.Str.spaceWords x (x.length + 1))
    rw [sizeLine_eq]; omega
  refine call_meets F.slot_str_split (typeIs_str _ _ _) F.entry_str_split (F.args_str_split_1 _) (meets_str_split_space x t (by rw [sizeLine_eq]; omega) hn) ?_
  cases hw : Builtin.Str.spaceWords x (x.length + 1) == [(0, x.length)]
  · simp only [Bool.false_eq_true, if_false]
    refine B.newList (keeps_push s _ _) (fresh_size _) (Heap.get?_push_size _ rfl) rfl rfl ?_
    rw [show Txt.words x = PySem.wordsOf x from if_neg (ne_true_of_eq_false hw)]
    simpa using strsFrom_VL (hb := hb) (PySem.wordsOf x) s.toks
  · simp only [if_true]
    refine B.newList (keeps_push s _ s.toks) (fresh_size _) (Heap.get?_push_size _ rfl) rfl rfl ?_
    rw [show Txt.words x = [x] from if_pos hw]
    exact .cons V.str .nil

theorem strValues_of {hb : Heap} : ∀ {xs : List Str} {vs : List Value}, VL hb vs ((xs.map PyData.str).map .py) → ∃ l : List (Str × Tok), vs = strValues l ∧ l.map (·.1) = xs
  | [], _, .nil => ⟨[], rfl, rfl⟩
  | x :: xs, _, .cons a b => by
    obtain ⟨t, rfl⟩ := a.str_inv
    obtain ⟨l, rfl, rfl⟩ := strValues_of b
    exact ⟨(x, t) :: l, rfl, rfl⟩
theorem FnC.join {w : World} {n : Nat} {P : Heap → Prop} {x : Str} {xs : List Str} (hok : JoinOk x xs = true) : FnC w (.builtin "str.join") n P [.py (.str x), .py (.list (xs.map .str))] [] (fun h v => V h v (.py (.str (Txt.join x xs)))) := by
  intro A l s hb R B hP a ha E
  obtain ⟨v, u, rfl, hv, hu⟩ := ha.two
  obtain ⟨t, rfl⟩ := hv.str_inv
  obtain ⟨a, o, vs, n, rfl, g1, g2, g3, g4⟩ := hu.list_inv
  obtain ⟨ll, hl, hx⟩ := strValues_of g4
  refine SC.join (D := a) (l := ll) (texts := xs) ⟨o, B.le _ _ g1, g2, n, by rw [g3, ← hl]⟩ hx hok fun t' k => ⟨hb, B.same (keeps_tok s k), V.str⟩

set_option maxRecDepth 100000 in
/-- a method of a text -/
theorem TX.strMeth {x : Str} {o : Expr} {name : Str} {apos pos : Pos} {args : List Expr} {ds : List D} {id : String} {R : Heap → Value → Prop}
    (ho : EX c ρ O o (.py (.str x))) (hs : Slot "str" name id) (hty : typeOf (.builtin id) = Pure.pure (.type "method_descriptor")) (ha : ArgX c ρ O args [] ds []) (hf : FnC c.w (.builtin id) 0 (fun _ => True) (.py (.str x) :: ds) [] R)
    (hform : methodCallForm (args.length + 0) (backTo pos (starEach args c.env)) (backToKw pos (keywordEach [] c.env)) = true := by rfl) (hline : (apos.endLine == pos.line) = true := by rfl)
    (hbase : attributeBase o name c.env (eval o c.env) = eval o c.env := by rfl) : TX c ρ O (eval (.Call (.Attribute o name apos) args [] pos) c.env) R := by
  intro s hb S E
  rw [arm_eval_Call, hbase]
  refine wpAny_bind (wpx S ho fun v s₁ hb₁ x₁ S₁ r₁ => wpAny_bind (wpAny_standAt ?_))
  obtain ⟨t, rfl⟩ := r₁.str_inv
  have hpos : methodCallPos true o c.env apos pos = Pure.pure pos := by unfold methodCallPos; simp [hline]
  unfold methodCall
  have hform' : methodCallForm (args.length + ([] : List Keyword).length) (backTo pos (starEach args c.env)) (backToKw pos (keywordEach [] c.env)) = true := hform
  rw [hform']
  refine wpAny_bind (wpAny_holding ?_)
  show wpAny _ _ (getMethod (.str x t) name (do return (← importBound o c.env).getD true)) _ _ _
  refine GM.of (.str x t) (typeIs_str _ _ _) hs hty (fun _ e => (nomatch e)) ?_
  refine wpAny_bind (wpAny_of_eq hpos (wpAny_mono (callWith_at (first := [.py (.str x)]) (P := fun _ => True) ha hf (Nat.zero_le _) trivial (fun _ _ _ _ => trivial) Keeps?.builtin S₁ (.cons r₁ .nil)) (fun v s₂ ⟨hb₂, x₂, r₂⟩ => ⟨hb₂, x₁.trans S.base x₂, r₂⟩) fun _ _ e => e))
set_option maxRecDepth 100000 in
theorem EX.strSplit {x : Str} {o : Expr} {apos pos : Pos} (ho : EX c ρ O o (.py (.str x))) (hx : x.length ≤ 1000)
    (hform : methodCallForm (0 + 0) (backTo pos (starEach [] c.env)) (backToKw pos (keywordEach [] c.env)) = true := by rfl) (hline : (apos.endLine == pos.line) = true := by rfl)
    (hbase : attributeBase o "split" c.env (eval o c.env) = eval o c.env := by rfl) : EX c ρ O (.Call (.Attribute o "split" apos) [] [] pos) (.py (.list ((Txt.words x).map .str))) :=
  TX.strMeth ho F.slot_str_split F.type_str_split ArgX.none (FnC.split hx) hform hline hbase
set_option maxRecDepth 100000 in
theorem EX.strJoin {x : Str} {xs : List Str} {o e : Expr} {apos pos : Pos} (ho : EX c ρ O o (.py (.str x))) (he : EX c ρ O e (.py (.list (xs.map .str)))) (hok : JoinOk x xs = true)
    (hs : ∀ env, starEach [e] env = (false, eval e env) :: starEach [] env := by intro _; rfl)
    (hform : methodCallForm (1 + 0) (backTo pos (starEach [e] c.env)) (backToKw pos (keywordEach [] c.env)) = true := by rfl) (hline : (apos.endLine == pos.line) = true := by rfl)
    (hbase : attributeBase o "join" c.env (eval o c.env) = eval o c.env := by rfl) : EX c ρ O (.Call (.Attribute o "join" apos) [e] [] pos) (.py (.str (Txt.join x xs))) :=
  TX.strMeth ho F.slot_str_join F.type_str_join (ArgX.plain (.cons he .nil hs)) (FnC.join hok) hform hline hbase
end
end Mine
end

/-! ## C1 -/
section
set_option maxRecDepth 100000
namespace Mine


theorem three_binds {w : World} {A : Around} {l : List Env} {s : Shared} {hb : Heap} {fd : FuncData} {a b c : Str} {d e f : D} {ar : Args} (B : Base w l hb s) (ha : VA hb ar [d, e, f] []) (h : ∀ v u t, bindArgs fd ⟨[v, u, t], []⟩ = pure [(a, v), (b, u), (c, t)]) (E : Value → Shared → Prop) :
    wpAny (MM w) A (bindArgs fd ar) (fun binds s₁ => ∃ hb₁, Ext l s hb s₁ hb₁ ∧ KL hb₁ binds [(a, d), (b, e), (c, f)]) E s := by
  obtain ⟨v, u, t, rfl, h1, h2, h3⟩ := ha.three
  exact wpAny_of_eq (h v u t) ⟨hb, .refl B, .cons h1 (.cons h2 (.cons h3 .nil))⟩
theorem VA.five {h : Heap} {a : Args} {d e f g k : D} (x : VA h a [d, e, f, g, k] []) : ∃ v u t p q, a = ⟨[v, u, t, p, q], []⟩ ∧ V h v d ∧ V h u e ∧ V h t f ∧ V h p g ∧ V h q k := by
  obtain ⟨pos, kw⟩ := a
  obtain ⟨h1, h2⟩ := x
  cases h2
  cases h1 with
  | cons p q => cases q with
    | cons p' q => cases q with
      | cons p'' q => cases q with
        | cons p3 q => cases q with
          | cons p4 q => cases q; exact ⟨_, _, _, _, _, rfl, p, p', p'', p3, p4⟩

theorem five_binds {w : World} {A : Around} {l : List Env} {s : Shared} {hb : Heap} {fd : FuncData} {a b c a' b' : Str} {d e f d' e' : D} {ar : Args} (B : Base w l hb s) (ha : VA hb ar [d, e, f, d', e'] []) (h : ∀ v u t v' u', bindArgs fd ⟨[v, u, t, v', u'], []⟩ = pure [(a, v), (b, u), (c, t), (a', v'), (b', u')]) (E : Value → Shared → Prop) :
    wpAny (MM w) A (bindArgs fd ar) (fun binds s₁ => ∃ hb₁, Ext l s hb s₁ hb₁ ∧ KL hb₁ binds [(a, d), (b, e), (c, f), (a', d'), (b', e')]) E s := by
  obtain ⟨v1, v2, v3, v4, v5, rfl, h1, h2, h3, h4, h5⟩ := ha.five
  exact wpAny_of_eq (h v1 v2 v3 v4 v5) ⟨hb, .refl B, .cons h1 (.cons h2 (.cons h3 (.cons h4 (.cons h5 .nil))))⟩

def atD (xs : List Int) (k other : Int) : Int := if k < xs.length then xs.getD k.toNat 0 else other

theorem c_law_at {w : World} {n : Nat} {xs : List Int} {k other : Int} (h0 : 0 ≤ k) (hx : xs.length < 1000) :
    CoC w (.ref 264) (n + 1) (Gd w) [.py (.list (xs.map .int)), .py (.int k), .py (.int other)] [] (fun h v => V h v (.py (.int (atD xs k other)))) := by
  refine CoC.def isFn_264 (fun _ h => h) (fun _ _ k g => g.up k) (bs := [("script", .py (.list (xs.map .int))), ("k", .py (.int k)), ("other", .py (.int other))]) (K := fun o => o = .ret (.py (.int (atD xs k other)))) ?_ ?_ ?_ ?_
  · intro x hx
    simp only [List.mem_cons, List.not_mem_nil, or_false] at hx
    rcases hx with rfl | rfl | rfl <;> exact .inl (by rfl)
  · exact fun A l s hb B hP a ha E => three_binds B ha (fun _ _ _ => by rfl) E
  · intro A l s₀ hb₀ L
    refine SB.ret (d := .py (.int (atD xs k other))) (EX.ite (k := decide (k < (xs.length : Int))) (TR.cmp (EX.name (d := .py (.int k)) rfl) ?_ (CmX.lt (b := (xs.length : Int)))) ?_ ?_) rfl
    · refine TX.callName (EX.builtin rfl (fun _ => by rfl) rfl) (.plain (.cons (EX.name (d := .py (.list (xs.map .int))) rfl) .nil)) (P := Gd w) ?_ (Nat.zero_le _) (fun _ _ g => g) Keeps?.builtin
      have := FnC.len_list (w := w) (n := 0) (P := Gd w) (xs := xs.map .int) (by simp; omega)
      rw [List.length_map] at this
      exact this
    · intro hk
      have hk' : k < (xs.length : Int) := by simpa using hk
      refine EX.sub (EX.name (d := .py (.list (xs.map .int))) rfl) (EX.name (d := .py (.int k)) rfl) (GiX.list h0 (by omega) ?_) PySem.F.slot_list_getitem.lookup
      have : k.toNat < xs.length := by omega
      simp [atD, hk', List.getD, this]
    · intro hk
      have hk' : ¬ k < (xs.length : Int) := by simpa using hk
      rw [show atD xs k other = other from by simp [atD, hk']]
      exact EX.name rfl
  · rintro o rfl
    exact .inl ⟨_, rfl, fun h v x => x⟩

/-- the letters of a word, out of the script -/
def manyD (xs : List Int) (start most other : Int) : Int := (atD xs start other).fmod (most + 1)
def chD (xs : List Int) (start : Int) (letters : Str) (other : Int) (k : Nat) : Nat := letters.cps.getD ((atD xs (start + 1 + k) (other + (k : Int) * k)).fmod letters.length).toNat 0
def wordD (xs : List Int) (start most : Int) (letters : Str) (other : Int) : Str := ⟨((List.range (manyD xs start most other).toNat).map (chD xs start letters other)).toArray⟩

section
variable {c : Ctx} {ρ ρ' : Rho} {O O' : List Own} {hb hb' : Heap} {s s' : Shared}
/-- a call of a function of the text, by its name -/
theorem EX.fn {x : Str} {f : Addr} {p pos : Pos} {args : List Expr} {n : Nat} {fd : FuncData} {body : List Stmt} {ds : List D} {d : D} (hx : c.env.kindOf x = some .globalImplicit) (hg : ∀ P, nsIn (KG P) mainGlobals x = some (some (.ref f))) (ha : ArgX c ρ O args [] ds [])
    (hf : CoC c.w (.ref f) n (Gd c.w) ds [] (fun h v => V h v d)) (F : IsFn f fd body) (hn : n ≤ c.n) (hd : (x == ("__debug__" : Str)) = false := by decide) : EX c ρ O (.Call (.Name x p) args [] pos) d :=
  TX.callName (EX.glob hx hg hd) ha hf.fn hn (fun _ _ g => g) (F.keeps fun _ h => h)
/-- a call of a built-in of one argument -/
theorem EX.call1 {x : Str} {f : Value} {p pos : Pos} {e : Expr} {d d' : D} (hx : EX c ρ O (.Name x p) (.raw f)) (he : EX c ρ O e d) (hf : FnC c.w f 0 (Gd c.w) [d] [] (fun h v => V h v d')) (hk : Keeps? c.w (Gd c.w) f)
    (hs : ∀ env, starEach [e] env = (false, eval e env) :: starEach [] env := by intro _; rfl) : EX c ρ O (.Call (.Name x p) [e] [] pos) d' :=
  TX.callName hx (.plain (.cons he .nil hs)) hf (Nat.zero_le _) (fun _ _ g => g) hk
end

theorem small_bits {a : Int} (h0 : 0 ≤ a) (h1 : a < 1000) : Builtin.Int.intBits a ≤ 64 := intBits_le_64 (by omega) (by omega)

theorem fmod_lt {a b : Int} (h : 0 < b) : 0 ≤ a.fmod b ∧ a.fmod b < b := ⟨Int.fmod_nonneg_of_pos _ h, Int.fmod_lt_of_pos _ h⟩

theorem c_law_word {w : World} {n : Nat} {xs : List Int} {start most other : Int} {letters : Str} (h0 : 0 ≤ start) (hs : start < 1000) (hx : xs.length < 1000) (hm : 0 ≤ most) (hm' : most < 100) (hl : 0 < letters.length) (hl' : letters.length < 1000) :
    CoC w (.ref 269) (n + 2) (Gd w) [.py (.list (xs.map .int)), .py (.int start), .py (.int most), .py (.str letters), .py (.int other)] [] (fun h v => V h v (.py (.str (wordD xs start most letters other)))) := by
  have hmany : 0 ≤ manyD xs start most other ∧ manyD xs start most other < most + 1 := fmod_lt (by omega)
  refine CoC.def isFn_269 (fun _ h => h) (fun _ _ k g => g.up k) (bs := [("script", .py (.list (xs.map .int))), ("start", .py (.int start)), ("most", .py (.int most)), ("letters", .py (.str letters)), ("other", .py (.int other))]) (K := fun o => o = .ret (.py (.str (wordD xs start most letters other)))) ?_ ?_ ?_ ?_
  · intro x hx
    simp only [List.mem_cons, List.not_mem_nil, or_false] at hx
    rcases hx with rfl | rfl | rfl | rfl | rfl <;> first | exact .inl (by rfl) | exact .inr ⟨by rfl, fun _ => by rfl⟩
  · intro A l s hb B hP a ha E
    exact five_binds B ha (fun _ _ _ _ _ => by rfl) E
  · intro A l s₀ hb₀ L
    refine SB.assign (d := .py (.int (manyD xs start most other))) ?_ ?_ ?_
    · refine EX.bin ?_ (EX.bin (EX.name rfl) EX.int OpX.add_int) (OpX.mod_int (a := atD xs start other) (by omega))
      exact EX.fn rfl (fun _ => by rfl) (.plain (.cons (EX.name rfl) (.cons (EX.name rfl) (.cons (EX.name rfl) .nil)))) (c_law_at (n := 0) h0 hx) isFn_264 (by show 1 ≤ n + 1; omega)
    · exact stoL rfl rfl
    · refine SB.ret (d := .py (.str (wordD xs start most letters other))) ?_ rfl
      refine EX.conv (EX.strJoin (x := Str.empty) (xs := PyProof.Rows.signs (wordD xs start most letters other)) EX.str (EX.conv (FX.ex (FX.compRange ["script", "start", "other", "letters"] (n := (manyD xs start most other).toNat) (g := fun k => .str ⟨#[chD xs start letters other k]⟩) ?hr (by omega) ?helt
        (hvis := vis_cons (vis rfl rfl (fun _ => rfl) rfl) (vis_cons (vis rfl rfl (fun _ => rfl) rfl) (vis_cons (vis rfl rfl (fun _ => rfl) rfl) (vis_cons (vis rfl rfl (fun _ => rfl) rfl) vis_nil)))) (hx := fun _ _ _ => stoL rfl rfl))) ?he) ?hok) ?heq
      case hr =>
        rw [Int.toNat_of_nonneg hmany.1]
        exact TX.callName (EX.builtin rfl (fun _ => by rfl) rfl) (.plain (.cons (EX.name (d := .py (.int (manyD xs start most other))) rfl) .nil)) FnC.range1 (Nat.zero_le _) (fun _ _ g => g) Keeps?.type
      case helt =>
        intro C s hb O i hi
        have hb1 : 0 < (letters.length : Int) := by omega
        have hmod := fmod_lt (a := atD xs (start + 1 + i) (other + (i : Int) * i)) hb1
        refine EX.sub (EX.name (d := .py (.str letters)) rfl) (EX.bin (EX.fn rfl (fun _ => by rfl) (.plain (.cons (EX.name rfl) (.cons (EX.bin (EX.bin (EX.name rfl) EX.int OpX.add_int) (EX.name rfl) OpX.add_int) (.cons (EX.bin (EX.name rfl) (EX.bin (EX.name rfl) (EX.name rfl) (OpX.mul_int ?_)) OpX.add_int) .nil)))) (c_law_at (n := 0) (by omega) hx) isFn_264 ?_)
          (EX.call1 (EX.builtin rfl (fun _ => by rfl) rfl) (EX.name rfl) (FnC.len_str (by omega)) Keeps?.builtin) (OpX.mod_int (by omega))) (GiX.str (ch := chD xs start letters other i) hmod.1 (by omega) ?_) PySem.F.slot_str_getitem.lookup
        · exact IntMulOk.of_left (small_bits (by omega) (by omega))
        · show 1 ≤ n + 1; omega
        · have hlt : ((atD xs (start + 1 + i) (other + (i : Int) * i)).fmod letters.length).toNat < letters.cps.size := by
            have : letters.cps.size = letters.length := rfl
            omega
          simp [chD, hlt]
      case he =>
        simp [PyProof.Rows.signs, wordD]
      case hok =>
        unfold JoinOk
        have hlen : (PyProof.Rows.signs (wordD xs start most letters other)).length = (manyD xs start most other).toNat := by simp [PyProof.Rows.signs, wordD]
        have h0 : Str.empty.length = 0 := rfl
        have hB : ∀ y ∈ PyProof.Rows.signs (wordD xs start most letters other), y.length ≤ 1 := fun y hy => by
          obtain ⟨k, _, rfl⟩ := List.mem_map.mp hy
          exact Nat.le_refl 1
        rw [StrLaws.joinFits hB (by rw [hlen, h0]; omega)]
        rfl
      case heq =>
        rw [show Txt.join Str.empty (PyProof.Rows.signs (wordD xs start most letters other)) = wordD xs start most letters other from (StrLaws.glued_eq_join _ _).trans (join_nil_signs _)]
  · rintro o rfl
    exact .inl ⟨_, rfl, fun h v x => x⟩
end Mine
end

/-! ## F26 -/
section
namespace Mine

/-! ### tuples drawn from -/
section
variable {prog : Program} {w : World} {A : Around} {E : Value → Shared → Prop} {s : Shared}
theorem nextOf_tuple_item {it l : Addr} {i : Nat} {items : Array Value} {x : Value} {Q : Value → Shared → Prop} (hit : s.heap.IsTupleIter it l i)
    (hl : s.heap.IsTuple l items) (hx : items[i]? = some x)
    (hQ : ∀ h', h'.IsTupleIter it l (i + 1) → Heap.SameBut it s.heap h' → Q x { s with heap := h' }) :
    wpAny (model prog w) A (Builtin.SmallTypes.nextOf (.ref it)) Q E s := by
  obtain ⟨o, ho, hc, hd⟩ := id hit
  obtain ⟨ol, hol, _, nl, hdl⟩ := hl
  unfold Builtin.SmallTypes.nextOf
  refine wpAny_bind (wpAny_callSpecial?_slot (name := Str.ofString "__next__") hit.typeIs PySem.F.slot_tuple_iterator_next
    (wpAny_call_entry PySem.F.slot_tuple_iterator_next hit.typeIs PySem.F.entry_tuple_iterator_next ?_ (PySem.F.args_tuple_iterator_next_1 _)))
  show wpAny _ _ (field (.ref it) 0 >>= _) _ _ s
  refine wpAny_bind (wpAny_field ho hd (x := .ref l) rfl ?_)
  show wpAny _ _ (if (Value.ref l == Value.none) = true then _ else _) _ _ s
  rw [if_neg (show ¬ ((Value.ref l == Value.none) = true) from Bool.false_ne_true)]
  show wpAny _ _ (field (.ref it) 1 >>= _) _ _ s
  refine wpAny_bind (wpAny_field ho hd (x := .int i 0) rfl ?_)
  show wpAny _ _ (seqItems? (.ref l) >>= _) _ _ s
  refine wpAny_bind (wpAny_seqItems hol hdl ?_)
  simp only [Int.toNat_natCast, hx]
  refine wpAny_bind (wpAny_setField ho hd (by simp) (wpAny_pure ⟨x, rfl, wpAny_pure (hQ _ ?_ (Heap.SameBut.update ..))⟩))
  exact ⟨_, Heap.get?_update_self _ ho (Obj.isFreed_of_fields (Obj.data_mapFields hd _)), (Obj.cls_mapFields ..).trans hc, by
    rw [Obj.data_mapFields hd]; simp [rawInt]⟩

theorem tuple_done {w : World} {it l : Addr} {i : Nat} {items : Array Value} {Q : Value → Shared → Prop} (hA : Calm A s.heap) (hAi : A.handled ≠ some (.ref it))
    (hit : s.heap.IsTupleIter it l i) (hl : s.heap.IsTuple l items) (hx : items[i]? = none)
    (hE : ∀ h' e tk, Heap.ExtBut it s.heap h' → (∃ o, h'.get? e = some o ∧ o.cls = .type "StopIteration") → E (.ref e) { s with heap := h', toks := tk }) :
    wpAny (MM w) A (Builtin.SmallTypes.nextOf (.ref it)) Q E s := by
  obtain ⟨o, ho, hc, hd⟩ := id hit
  obtain ⟨ol, hol, _, nl, hdl⟩ := hl
  unfold Builtin.SmallTypes.nextOf
  refine wpAny_bind (wpAny_callSpecial?_slot (name := Str.ofString "__next__") hit.typeIs PySem.F.slot_tuple_iterator_next
    (wpAny_call_entry PySem.F.slot_tuple_iterator_next hit.typeIs PySem.F.entry_tuple_iterator_next ?_ (PySem.F.args_tuple_iterator_next_1 _)))
  show wpAny _ _ (field (.ref it) 0 >>= _) _ _ s
  refine wpAny_bind (wpAny_field ho hd (x := .ref l) rfl ?_)
  show wpAny _ _ (if (Value.ref l == Value.none) = true then _ else _) _ _ s
  rw [if_neg (show ¬ ((Value.ref l == Value.none) = true) from Bool.false_ne_true)]
  show wpAny _ _ (field (.ref it) 1 >>= _) _ _ s
  refine wpAny_bind (wpAny_field ho hd (x := .int i 0) rfl ?_)
  show wpAny _ _ (seqItems? (.ref l) >>= _) _ _ s
  refine wpAny_bind (wpAny_seqItems hol hdl ?_)
  simp only [Int.toNat_natCast, hx]
  refine wpAny_bind (wpAny_rule (wpAny_bind (wpAny_setField ho hd (by simp) ?_)))
  show wpAny _ _ (newExc (.type "StopIteration") [] >>= fun e => raiseNew e) _ _ _
  exact new_stop (by exact hA.at_update hAi) fun h' e tk hl ho => hE h' e tk (fun b o hb e => hl b o ((Heap.SameBut.update ..).extBut b o hb e)) ho
end

theorem Itb.seqtuple {d : D} {ds : List D} (h : ∀ hb v, V hb v d → SeqV "tuple" ds hb v) : Itb d ds := by
  intro w A hb s v hv hle E Q hQ
  obtain ⟨a, o, vs, n, rfl, g1, g2, g3, g4⟩ := h _ _ hv
  have ho := hle _ _ g1
  have hl := g4.length
  simp only [Array.length_toList] at hl
  have hne : a ≠ s.heap.objs.size := Nat.ne_of_lt (Heap.lt_size ho)
  refine wpAny_pyIter_tuple ⟨o, ho, g2, n, g3⟩ (hQ _ ⟨s.heap.objs.size, [s.heap.objs.size, a], ds, fun i v => vs[i]? = some v, fun i h => h.IsTupleIter s.heap.objs.size a i ∧ h.IsTuple a vs⟩ rfl ?_ rfl ?_ ?_)
  · refine ⟨fun A w i s' Q E hi st hQ => ?_, fun A w s' Q E hA st hE => ?_, List.mem_cons_self .., fun i h h' st hk => ⟨st.1.at fun o e => hk _ (by simp) o e, st.2.at fun o e => hk a (by simp) o e⟩, fun i v hi hP => ?_, fun i h hp => ?_⟩
    · dsimp only at hi st hQ ⊢
      refine nextOf_tuple_item st.1 st.2 (x := vs[i]) (by simp [hl, hi]) fun h' hit' hs' => ?_
      exact hQ _ h' s'.toks (by simp [hl, hi]) ⟨hit', st.2.extBut hs'.extBut hne⟩ hs'
    · dsimp only at st hE ⊢
      obtain ⟨o', ho', hc', _⟩ := id st.1
      exact tuple_done hA (hA.not_of ho' (by rw [hc']; decide)) st.1 st.2 (by simp [hl]) hE
    · dsimp only at hi hP ⊢
      obtain ⟨u, hu, hv⟩ := g4.get (d := ds[i]) (i := i) (by simp [hi])
      refine ⟨ds[i], by simp [hi], ?_⟩
      have : v = u := by
        rw [Array.getElem?_toList, hP] at hu; exact Option.some.inj hu
      exact this ▸ hv
    · obtain ⟨⟨o, ho, hc, _⟩, _⟩ := hp
      refine ⟨o, ho, ?_, ?_, ?_, ?_, ?_⟩ <;> (rw [hc]; decide)
  · exact ⟨⟨_, Heap.get?_push_size _ rfl, rfl, rfl⟩, o, Heap.get?_push_of_some _ ho, g2, n, g3⟩
  · intro b hb
    rcases List.mem_cons.mp hb with rfl | hb
    · exact .inl rfl
    · rcases List.mem_cons.mp hb with rfl | hb
      · exact .inr ⟨o, g1⟩
      · cases hb
theorem Itb.tuple {xs : List PyData} : Itb (.py (.tuple xs)) (xs.map .py) := .seqtuple fun _ _ x => .of_tuple x
theorem Itb.tv {ds : List D} : Itb (TV ds) ds := .seqtuple fun _ _ x => x.out

/-! ### map -/
theorem slot_map_iter : Slot "map" "__iter__" "map.__iter__" :=
  .of (owner := "map") (n := "__iter__") (by rw [typeLookup_type, builtinLookup_eq_fast]; kernel_rfl) (by decide +kernel) (by decide +kernel) (by decide +kernel)
    (by first | exact .inl (by decide +kernel) | exact .inr (by decide +kernel)) (by rw [isSubtype_type]; kernel_rfl)
theorem slot_map_next : Slot "map" "__next__" "map.__next__" :=
  .of (owner := "map") (n := "__next__") (by rw [typeLookup_type, builtinLookup_eq_fast]; kernel_rfl) (by decide +kernel) (by decide +kernel) (by decide +kernel)
    (by first | exact .inl (by decide +kernel) | exact .inr (by decide +kernel)) (by rw [isSubtype_type]; kernel_rfl)
theorem slot_map_init : Slot "map" "__init__" "object.__init__" :=
  .of (owner := "object") (n := "__init__") (by rw [typeLookup_type, builtinLookup_eq_fast]; kernel_rfl) (by decide +kernel) (by decide +kernel) (by decide +kernel)
    (by first | exact .inl (by decide +kernel) | exact .inr (by decide +kernel)) (by rw [isSubtype_type]; kernel_rfl)
theorem owner_map : Manifest.owners.lookup (String.ofList ['p', 'a', 'm'].reverse) = some Manifest.sig_map := by kernel_rfl
theorem args_map_iter_1 (a : Value) : argsOk "map.__iter__" ⟨[a], []⟩ := by
  unfold argsOk; rw [signature?_of (id := "map.__iter__") (n := ['_', '_', 'r', 'e', 't', 'i', '_', '_']) (o := ['p', 'a', 'm']) (by kernel_rfl) owner_map]; kernel_rfl
theorem args_map_next_1 (a : Value) : argsOk "map.__next__" ⟨[a], []⟩ := by
  unfold argsOk; rw [signature?_of (id := "map.__next__") (n := ['_', '_', 't', 'x', 'e', 'n', '_', '_']) (o := ['p', 'a', 'm']) (by kernel_rfl) owner_map]; kernel_rfl
theorem entry_map_next : entryFor table "map.__next__" = some Builtin.«map.__next__» := entryFor_of_tree (by kernel_rfl)
theorem entry_map_new : entryFor table "map.__new__" = some Builtin.«map.__new__» := entryFor_of_tree (by kernel_rfl)
theorem entry_map_iter : entryFor table "map.__iter__" = some Builtin.«dict_keyiterator.__iter__» :=
  entryFor_alias (id' := "dict_keyiterator.__iter__") (by kernel_rfl) (by first | rfl | decide +kernel | (unfold String.splitOn; simp +decide [String.splitOnAux])) (by decide +kernel) (by kernel_rfl)
theorem mro_map : mroOf (.type "map") = pure [.type "map", .type "object"] := by rw [mroOf_type]; kernel_rfl
theorem lookup_map_new : typeLookup (.type "map") "__new__" = pure (some (.builtin "map.__new__")) := by rw [typeLookup_type, builtinLookup_eq_fast]; kernel_rfl
theorem called_map : TypeCalled "map" "map.__new__" "object.__init__" :=
  ⟨by decide +kernel, by decide +kernel, ⟨_, _, mro_map⟩, madeBy_type mro_map lookup_map_new (by decide +kernel), by decide +kernel, by rw [isSubtype_type]; kernel_rfl, slot_map_init⟩
theorem typeCall_map_2 (a b : Value) : checkTypeCall "map" ⟨[a, b], []⟩ = pure () := by kernel_rfl
theorem newCall_map_2 (a b : Value) : checkBuiltinCall "map.__new__" ⟨[.type "map", a, b], []⟩ = pure () := by kernel_rfl
theorem sub_map : isSubtype (.type "map") (.type "map") = pure true := by rw [isSubtype_type]; kernel_rfl
end Mine
end

/-! ## F27 -/
section
namespace Mine

def mObj (TI : Addr) (f : Value) : Obj := { cls := .type "map", dict := none, data := .fields #[.ref TI, f], slots := #[] }

/-- map(len, seqs) -/
structure Ms (hbI : Heap) (dr : Dr) (m TI : Addr) (i : Nat) (h : Heap) : Prop where
  mo : h.get? m = some (mObj TI (.builtin "len"))
  ti : h.get? TI = some (tObj #[.ref dr.it] 0)
  st : dr.S i h
  le : Le hbI h
structure Map1 (hbI : Heap) (dr : Dr) (m TI : Addr) : Prop where
  ok : DrOk hbI dr
  m1 : m ∉ dr.fp
  t1 : TI ∉ dr.fp
  hbn : hbI.get? dr.it = none

noncomputable def liveIn (h : Heap) : List Addr := (List.range h.objs.size).filter fun b => (h.get? b).isSome
theorem mem_liveIn {h : Heap} {b : Addr} {o : Obj} (e : h.get? b = some o) : b ∈ liveIn h := by
  unfold liveIn
  rw [List.mem_filter]
  exact ⟨List.mem_range.mpr (Heap.lt_size e), by rw [e]; rfl⟩
theorem liveIn_mem {h : Heap} {b : Addr} (e : b ∈ liveIn h) : ∃ o, h.get? b = some o := by
  unfold liveIn at e
  rw [List.mem_filter] at e
  exact Option.isSome_iff_exists.mp e.2

section
variable {w : World} {A : Around} {E : Value → Shared → Prop}

theorem map_item {hbI : Heap} {dr : Dr} {m TI : Addr} {i : Nat} {s : Shared} {Q : Value → Shared → Prop} {xs : List PyData} (K : Map1 hbI dr m TI) (hst : Ms hbI dr m TI i s.heap) (hi : i < dr.ds.length)
    (hx : dr.ds[i]? = some (.py (.list xs))) (hxs : xs.length < 2 ^ 62)
    (hQ : ∀ t h' tk, Ms hbI dr m TI (i + 1) h' → Heap.SameBut dr.it s.heap h' → Q (.int xs.length t) { s with heap := h', toks := tk }) :
    wpAny (MM w) A (Builtin.«map.__next__» ⟨[.ref m], []⟩) (fun fin s' => ∃ v, fin = .done (.ret v) ∧ Q v s') E s := by
  obtain ⟨hm, hTI, hS, hle⟩ := hst
  have a1 : m ≠ dr.it := fun e => K.m1 (e ▸ K.ok.own)
  have a2 : TI ≠ dr.it := fun e => K.t1 (e ▸ K.ok.own)
  show wpAny _ _ (field (.ref m) 0 >>= _) _ _ _
  refine wpAny_bind (wpAny_field hm rfl (x := .ref TI) rfl ?_)
  refine wpAny_bind (wpAny_seqItems hTI rfl ?_)
  dsimp only
  rw [List.forIn_toArray]
  rw [List.forIn_cons]
  refine wpAny_bind (wpAny_bind ?_)
  refine wpAny_bind (wpAny_holding ?_)
  refine K.ok.item A w i s _ _ hi hS fun v h' tk hP hS' hs' => ?_
  refine wpAny_pure ?_
  dsimp only
  rw [List.forIn_nil]
  refine wpAny_pure ?_
  have hm' := hs'.extBut _ _ a1 hm
  have hTI' := hs'.extBut _ _ a2 hTI
  have hle' : Le hbI h' := fun b o e => hs'.extBut b o (fun q => by rw [q, K.hbn] at e; cases e) (hle b o e)
  show wpAny _ _ (field (.ref m) 1 >>= _) _ _ _
  refine wpAny_bind (wpAny_field hm' rfl (x := .builtin "len") rfl ?_)
  obtain ⟨d, hd, hv⟩ := K.ok.res i v hi hP
  rw [hx] at hd; cases hd
  obtain ⟨a, o, vs, n, rfl, g1, g2, g3, g4⟩ := hv.list_inv
  have hl := g4.length
  simp only [List.length_map, Array.length_toList] at hl
  refine wpAny_bind (wpAny_holding ?_)
  refine PyProof.Rows.len_list ⟨o, hle' _ _ g1, g2, n, g3⟩ (by omega) ?_
  refine wpAny_bind (wpAny_letGo ?_)
  refine wpAny_pure ⟨_, rfl, ?_⟩
  rw [hl]
  exact hQ _ _ _ ⟨hm', hTI', hS', hle'⟩ hs'

theorem map_end {hbI : Heap} {dr : Dr} {m TI : Addr} {s : Shared} {Q : Value → Shared → Prop} (hA : A.handled = none) (K : Map1 hbI dr m TI) (hst : Ms hbI dr m TI dr.ds.length s.heap)
    (hE : ∀ h' e tk, Heap.ExtBut dr.it s.heap h' → (∃ o, h'.get? e = some o ∧ o.cls = .type "StopIteration") → E (.ref e) { s with heap := h', toks := tk }) :
    wpAny (MM w) A (Builtin.«map.__next__» ⟨[.ref m], []⟩) (fun fin s' => ∃ v, fin = .done (.ret v) ∧ Q v s') E s := by
  obtain ⟨hm, hTI, hS, hle⟩ := hst
  show wpAny _ _ (field (.ref m) 0 >>= _) _ _ _
  refine wpAny_bind (wpAny_field hm rfl (x := .ref TI) rfl ?_)
  refine wpAny_bind (wpAny_seqItems hTI rfl ?_)
  dsimp only
  rw [List.forIn_toArray]
  rw [List.forIn_cons]
  refine wpAny_bind (wpAny_bind ?_)
  refine wpAny_bind (wpAny_holding ?_)
  exact K.ok.done A w s _ _ (.inl hA) hS fun h' e tk he ho => hE h' e tk he ho

theorem map_walks {hbI : Heap} {dr : Dr} {m TI : Addr} {val : Nat → List PyData} (hA : A.handled = none) (K : Map1 hbI dr m TI) (hx : ∀ i, i < dr.ds.length → dr.ds[i]? = some (.py (.list (val i)))) (hxs : ∀ i, (val i).length < 2 ^ 62) :
    Walks PW w A m (m :: TI :: (dr.fp ++ liveIn hbI)) [dr.it] dr.ds.length (fun i v => ∃ t, v = .int (val i).length t) (Ms hbI dr m TI) where
  sub := fun b hb => by
    rcases List.mem_cons.mp hb with rfl | hb
    · exact List.mem_cons_of_mem _ (List.mem_cons_of_mem _ (List.mem_append_left _ K.ok.own))
    · cases hb
  frame := fun i h h' st hk => ⟨hk _ (List.mem_cons_self ..) _ st.mo, hk _ (List.mem_cons_of_mem _ (List.mem_cons_self ..)) _ st.ti,
    K.ok.frame _ _ _ st.st fun b hb => hk b (List.mem_cons_of_mem _ (List.mem_cons_of_mem _ (List.mem_append_left _ hb))),
    fun b o e => hk b (List.mem_cons_of_mem _ (List.mem_cons_of_mem _ (List.mem_append_right _ (mem_liveIn e)))) o (st.le b o e)⟩
  item := fun i s Q E hi st hQ => by
    have hT : s.TypeIs (.ref m) "map" := ⟨_, st.mo, rfl⟩
    unfold pyNext
    refine wpAny_bind (wpAny_attempt (wpAny_callSpecial?_slot (name := Str.ofString "__next__") hT slot_map_next
      (wpAny_call_entry slot_map_next hT entry_map_next (map_item (Q := fun v s' => wpAny (MM w) A (pure (some v)) Q E s') K st hi (hx i hi) (hxs i) fun t h' tk st' hs' => wpAny_pure (hQ _ h' tk ⟨t, rfl⟩ st' fun b o hb e => hs'.extBut b o (fun q => hb (by simp [q])) e)) (args_map_next_1 _))))
  done := fun s Q E st hQ => by
    have hT : s.TypeIs (.ref m) "map" := ⟨_, st.mo, rfl⟩
    unfold pyNext
    refine wpAny_bind (wpAny_attempt (wpAny_callSpecial?_slot (name := Str.ofString "__next__") hT slot_map_next
      (wpAny_call_entry slot_map_next hT entry_map_next (map_end hA K st fun h' e tk he ho => ?_) (args_map_next_1 _))))
    obtain ⟨o, ho, hc⟩ := ho
    refine wpAny_bind (wpAny_isInstance (T := "StopIteration") (b := true) ⟨o, ho, hc⟩ isSubtype_stop ?_)
    exact wpAny_pure (hQ h' tk fun b o hb e => he b o (fun q => hb (by simp [q])) e)
  self := fun i s Q E st hQ => by
    have hT : s.TypeIs (.ref m) "map" := ⟨_, st.mo, rfl⟩
    refine wpAny_pyIter_slot hT slot_map_iter (wpAny_call_entry slot_map_iter hT entry_map_iter ?_ (args_map_iter_1 _))
    show wpAny _ _ (ret (.ref m)) _ _ s
    exact wpAny_pure ⟨_, rfl, "map", _, hT, slot_map_next.lookup, hQ⟩

theorem map_new_in (f v : Value) : MeetsIn PW w (Builtin.«map.__new__» ⟨[.type "map", f, v], []⟩) (fun A R s => wpAny (MM w) A.in1 (pyIter v) (fun it s' =>
      R (.ok (.ret (.ref (s'.heap.objs.size + 1)))) { s' with heap := ((s'.heap.push (tObj #[it] 0)).push (mObj s'.heap.objs.size f)) }) (fun e s' => R (.error e) s') s) :=
  .of_wp fun A R s h => by
    have hsub := sub_map
    unfold Builtin.«map.__new__»
    show wpAny _ _ (Builtin.SmallTypes.newClass "map" ⟨[.type "map", f, v], []⟩ >>= _) _ _ _
    unfold Builtin.SmallTypes.newClass
    refine wpAny_bind ?_
    dsimp only
    refine wpAny_bind (wpAny_of_eq (a := true) (by kernel_rfl) ?_)
    simp only [Bool.not_true, Bool.false_eq_true, if_false]
    refine wpAny_bind (wpAny_of_eq hsub ?_)
    simp only [Bool.not_true, Bool.false_eq_true, if_false]
    refine wpAny_pure ?_
    dsimp only
    refine wpAny_bind (wpAny_of_eq (show Builtin.SmallTypes.refuseKeywords "map" (.type "map") ⟨[.type "map", f, v], []⟩ = pure () from rfl) ?_)
    show wpAny _ _ (Builtin.SmallTypes.iterAll [v] >>= _) _ _ _
    refine wpAny_bind ?_
    unfold Builtin.SmallTypes.iterAll
    dsimp only
    rw [List.forIn_cons]
    refine wpAny_bind (wpAny_bind (wpAny_bind (wpAny_holding (wpAny_mono h (fun it s' hx => ?_) fun _ _ e => e))))
    refine wpAny_pure ?_
    dsimp only
    rw [List.forIn_nil]
    refine wpAny_pure (wpAny_pure ?_)
    refine wpAny_bind (wpAny_newTuple (hsz := by simp [sizeLine_eq]) ?_)
    unfold Builtin.SmallTypes.newRecord
    dsimp only
    refine wpAny_bind (wpAny_newObj_type ?_ (by size_fits))
    refine wpAny_pure ⟨_, rfl, ?_⟩
    simpa [Heap.size_push, mObj, tObj] using hx

theorem call_map {hb : Heap} {s : Shared} {v : Value} {d : D} {ds : List D} {Q : Value → Shared → Prop} (hv : V hb v d) (hi : Itb d ds) (hle : Le hb s.heap)
    (hQ : ∀ dr h' m TI, dr.ds = ds → Map1 hb dr m TI → Ms hb dr m TI 0 h' → (∀ b ∈ dr.fp, b < h'.objs.size) → m < h'.objs.size → TI < h'.objs.size → Le s.heap h' → s.heap.get? dr.it = none → Q (.ref m) { s with heap := h' }) :
    wpAny (MM w) A (call (.type "map") [.builtin "len", v]) Q E s := by
  refine callType_newIn called_map (by decide) (typeCall_map_2 _ _) (newCall_map_2 _ _) (fun obj => PySem.F.args_object_init_3 _ _ _) entry_map_new (map_new_in _ _) ?_
  refine hi w A.in1.in1 hb s v hv hle _ _ fun o dr h1 h2 h3 h4 h5 => ?_
  have z1 : (s.heap.push o).objs.size = s.heap.objs.size + 1 := Heap.size_push ..
  have z2 : ((s.heap.push o).push (tObj #[.ref s.heap.objs.size] 0)).objs.size = s.heap.objs.size + 1 + 1 := by rw [Heap.size_push, z1]
  have z3 : (((s.heap.push o).push (tObj #[.ref s.heap.objs.size] 0)).push (mObj (s.heap.push o).objs.size (.builtin "len"))).objs.size = s.heap.objs.size + 1 + 1 + 1 := by rw [Heap.size_push, z2]
  have gm : (((s.heap.push o).push (tObj #[.ref s.heap.objs.size] 0)).push (mObj (s.heap.push o).objs.size (.builtin "len"))).get? ((s.heap.push o).objs.size + 1) = some (mObj (s.heap.push o).objs.size (.builtin "len")) := by
    rw [z1, ← z2]; exact Heap.get?_push_size _ rfl
  have gT : (((s.heap.push o).push (tObj #[.ref s.heap.objs.size] 0)).push (mObj (s.heap.push o).objs.size (.builtin "len"))).get? (s.heap.push o).objs.size = some (tObj #[.ref s.heap.objs.size] 0) :=
    Heap.get?_push_of_some _ (Heap.get?_push_size _ rfl)
  have up : ∀ b ob, (s.heap.push o).get? b = some ob → (((s.heap.push o).push (tObj #[.ref s.heap.objs.size] 0)).push (mObj (s.heap.push o).objs.size (.builtin "len"))).get? b = some ob := fun b ob e => Heap.get?_push_of_some _ (Heap.get?_push_of_some _ e)
  have hlow : ∀ b ∈ dr.fp, b < (s.heap.push o).objs.size := fun b hb' => by
    rcases h5 b hb' with rfl | ⟨ob, e⟩
    · rw [h1, z1]; exact Nat.lt_succ_self _
    · rw [z1]; exact Nat.lt_succ_of_lt (Heap.lt_size (hle _ _ e))
  refine ⟨⟨_, gm, rfl⟩, hQ dr _ ((s.heap.push o).objs.size + 1) (s.heap.push o).objs.size h3 ⟨h2, fun q => ?_, fun q => ?_, ?_⟩ ⟨gm, by rw [h1]; exact gT, h2.frame _ _ _ h4 fun b _ o e => up b o e, fun b ob e => up b ob (Heap.get?_push_of_some _ (hle _ _ e))⟩ (fun b hb' => ?_) ?_ ?_ (fun b ob e => up b ob (Heap.get?_push_of_some _ e)) ?_⟩
  · exact absurd (hlow _ q) (Nat.not_lt.mpr (Nat.le_succ _))
  · exact absurd (hlow _ q) (Nat.lt_irrefl _)
  · rw [h1]
    cases e : hb.get? s.heap.objs.size with
    | none => rfl
    | some ob => exact absurd (Heap.lt_size (hle _ _ e)) (Nat.lt_irrefl _)
  · rw [z3]; have := hlow b hb'; rw [z1] at this; exact Nat.lt_succ_of_lt (Nat.lt_succ_of_lt this)
  · rw [z3, z1]; exact Nat.lt_succ_self _
  · rw [z3, z1]; exact Nat.lt_succ_of_lt (Nat.lt_succ_self _)
  · rw [h1]; exact fresh_size _
end

section
variable {c : Ctx} {ρ ρ' : Rho} {O O' : List Own} {hb hb' : Heap} {s s' : Shared}
/-- max(map(len, two lists)) -/
theorem EX.maxLen2 {x y z : Str} {p₁ p₂ p₃ pos pos' : Pos} {e : Expr} {d : D} {xs ys : List PyData} (hx : EX c ρ O (.Name x p₁) (.raw (.builtin "max"))) (hy : EX c ρ O (.Name y p₂) (.raw (.type "map"))) (hz : EX c ρ O (.Name z p₃) (.raw (.builtin "len")))
    (he : EX c ρ O e d) (hi : Itb d [.py (.list xs), .py (.list ys)]) (h1 : xs.length < 2 ^ 62) (h2 : ys.length < 2 ^ 62) (hs : ∀ env, starEach [e] env = (false, eval e env) :: starEach [] env := by intro _; rfl) :
    EX c ρ O (.Call (.Name x p₁) [.Call (.Name y p₂) [.Name z p₃, e] [] pos'] [] pos) (.py (.int (max xs.length ys.length : Nat))) := by
  intro s hb S E
  refine wpAny_Call_Name_kw (wpx S hx fun v s₁ hb₁ x₁ S₁ r₁ => ?_)
  cases r₁
  rw [show starEach [Expr.Call (.Name y p₂) [.Name z p₃, e] [] pos'] c.env = [(false, eval (.Call (.Name y p₂) [.Name z p₃, e] [] pos') c.env)] from rfl]
  refine callWith_gen (Calls.evalArgs_plain (Calls.spliced_cons ?_))
  refine wpAny_Call_Name_kw (wpx S₁ hy fun v s₂ hb₂ x₂ S₂ r₂ => ?_)
  cases r₂
  have ha : ArgX c ρ O [.Name z p₃, e] [] [.raw (.builtin "len"), d] [] := ArgX.plain (.cons hz (.cons he .nil hs))
  refine callWith_gen (wpx S₂ (ha _ _) fun a s₃ hb₃ x₃ S₃ r₃ => ⟨⟨_, .of_pure rfl⟩, ?_⟩)
  obtain ⟨v₁, v₂, rfl, q1, q2⟩ := VA.two r₃
  cases q1
  refine call_map q2 hi S₃.base.le fun dr h' m TI hds K hst hfp hm hTI hle hn => ?_
  refine Calls.spliced_nil ⟨⟨_, .of_pure rfl⟩, ?_⟩
  have hlen : dr.ds.length = 2 := by rw [hds]; rfl
  have hxs : ∀ i, i < dr.ds.length → dr.ds[i]? = some (.py (.list (if i = 0 then xs else ys))) := fun i hi => by
    rw [hlen] at hi
    rw [hds]
    match i, hi with
    | 0, _ => rfl
    | 1, _ => rfl
  have W := map_walks (w := c.w) (A := c.A.in1) (val := fun i => if i = 0 then xs else ys) S₃.ok.room.han K hxs (fun i => by split <;> assumption)
  rw [hlen] at W
  refine call_max_walk ?_
  refine W.self 0 _ _ _ hst ⟨m, _, _, _, _, _, _, rfl, W, hst, fun b hb => ?_, by decide, CmpOf.ints_gt (fun i => ((if i = 0 then xs else ys).length : Int)) (fun i v h => h), fun v h'' tk hP hk => ?_⟩
  · rcases List.mem_cons.mp hb with rfl | hb
    · exact hm
    · rcases List.mem_cons.mp hb with rfl | hb
      · exact hTI
      · rcases List.mem_append.mp hb with hb | hb
        · exact hfp b hb
        · obtain ⟨o, e⟩ := liveIn_mem hb
          exact Heap.lt_size (hst.le _ _ e)
  · obtain ⟨t, rfl⟩ := hP
    have X : Ext c.l s₃ hb₃ { s₃ with heap := h'', toks := tk } hb₃ := S₃.same ⟨h'', tk, rfl, fun b o e => hk b o (fun q => by
      rcases List.mem_cons.mp q with rfl | q
      · rw [hn] at e; cases e
      · cases q) (hle b o e)⟩
    refine ⟨hb₃, (((x₁.trans S.base x₂).trans S.base x₃).trans S.base X), ?_⟩
    have key : ((if (argBest (fun i j => decide (((if i = 0 then xs else ys).length : Int) > ((if j = 0 then xs else ys).length : Int))) (2 - 1)) = 0 then xs else ys).length : Int) = ((max xs.length ys.length : Nat) : Int) := by
      simp only [argBest, Nat.reduceSub, Nat.zero_add]
      by_cases hlt : xs.length < ys.length
      · have : (ys.length : Int) > xs.length := by omega
        simp [this]; omega
      · have : ¬ ((ys.length : Int) > xs.length) := by omega
        simp [this]; omega
    rw [key]
    exact V.int
end
end Mine
end

/-! ## F28 -/
section
set_option maxRecDepth 100000
namespace Mine

section
variable {w : World} {A : Around} {l : List Env} {s : Shared} {hb : Heap} {fd : FuncData} {nm : Str} {x y : PyData} {ar : Args}
theorem new_pair (B : Base w l hb s) {v u : Value} (hv : V hb v (.py x)) (hu : V hb u (.py y)) {E : Value → Shared → Prop} {Q : Value → Shared → Prop}
    (h : ∀ t s' hb', Ext l s hb s' hb' → V hb' t (.py (.tuple [x, y])) → Q t s') : wpAny (MM w) A (newTuple [v, u]) Q E s := by
  refine wpAny_newTuple (hsz := by simp [sizeLine_eq]) ?_
  obtain ⟨hb', X, hV⟩ := B.newTuple (xs := [x, y]) (keeps_push s (tObj #[v, u] 0) s.toks) (fresh_size _) (Heap.get?_push_size _ rfl) rfl rfl (.cons hv (.cons hu .nil))
  exact h _ _ hb' X hV
theorem star_binds (B : Base w l hb s) (ha : VA hb ar [.py x, .py y] []) (h : ∀ v u, bindArgs fd ⟨[v, u], []⟩ = (newTuple [v, u] >>= fun t => pure [(nm, t)])) (E : Value → Shared → Prop) :
    wpAny (MM w) A (bindArgs fd ar) (fun binds s₁ => ∃ hb₁, Ext l s hb s₁ hb₁ ∧ KL hb₁ binds [(nm, .py (.tuple [x, y]))]) E s := by
  obtain ⟨v, u, rfl, h1, h2⟩ := ha.two
  rw [h]
  exact wpAny_bind (new_pair B h1 h2 fun t s' hb' X hV => wpAny_pure ⟨hb', X, .cons hV .nil⟩)
theorem self_star_binds {sl : Str} {d : D} (B : Base w l hb s) (ha : VA hb ar [d, .py x, .py y] []) (h : ∀ t v u, bindArgs fd ⟨[t, v, u], []⟩ = (newTuple [v, u] >>= fun q => pure [(sl, t), (nm, q)])) (E : Value → Shared → Prop) :
    wpAny (MM w) A (bindArgs fd ar) (fun binds s₁ => ∃ hb₁, Ext l s hb s₁ hb₁ ∧ KL hb₁ binds [(sl, d), (nm, .py (.tuple [x, y]))]) E s := by
  obtain ⟨t, v, u, rfl, h0, h1, h2⟩ := ha.three
  rw [h]
  exact wpAny_bind (new_pair B h1 h2 fun q s' hb' X hV => wpAny_pure ⟨hb', X, .cons (h0.up X.le) (.cons hV .nil)⟩)
end

theorem TrX.tuple {xs : List PyData} (hx : xs.length < 2 ^ 62) : TrX (.py (.tuple xs)) (!xs.isEmpty) := fun w A hb s v hv hle E Q hQ => by
  obtain ⟨a, o, vs, n, rfl, g1, g2, g3, g4⟩ := hv.tuple_inv
  have hl := g4.length
  simp only [List.length_map, Array.length_toList] at hl
  refine PyProof.Rows.truthy_tuple ⟨o, hle _ _ g1, g2, n, g3⟩ (by omega) ?_
  have e : vs.isEmpty = xs.isEmpty := by
    rw [Array.isEmpty, hl]
    cases xs <;> simp
  rw [e]
  exact hQ _

/-- the greatest of the lengths -/
theorem c_maximum {w : World} {n : Nat} {xs ys : List PyData} (h1 : xs.length < 2 ^ 62) (h2 : ys.length < 2 ^ 62) :
    CoC w (.ref 55) (n + 1) (Gd w) [.py (.list xs), .py (.list ys)] [] (fun h v => V h v (.py (.int (max xs.length ys.length : Nat)))) := by
  refine CoC.def isFn_55 (fun _ h => h) (fun _ _ k g => g.up k) (bs := [("sequences", .py (.tuple [.list xs, .list ys]))]) (K := fun o => o = .ret (.py (.int (max xs.length ys.length : Nat)))) ?_ ?_ (fun A l s₀ hb₀ L => ?_) ?_
  · intro x hx
    simp only [List.mem_cons, List.not_mem_nil, or_false] at hx
    rcases hx with rfl
    exact .inl (by rfl)
  · exact fun A l s hb B hP a ha E => star_binds B ha (fun _ _ => by rfl) E
  · exact SB.ret (EX.maxLen2 (EX.builtin rfl (fun _ => by rfl) rfl) (EX.builtin rfl (fun _ => by rfl) rfl) (EX.builtin rfl (fun _ => by rfl) rfl) (EX.name (d := .py (.tuple [.list xs, .list ys])) rfl) Itb.tuple h1 h2) rfl
  · rintro o rfl
    exact .inl ⟨_, rfl, fun h v x => x⟩
end Mine
end

/-! ## F29 -/
section
set_option maxRecDepth 100000
namespace Mine

theorem walks_le {prog : Program} {w : World} {A : Around} {I : Addr} {fp wr : List Addr} {n : Nat} {P : Nat → Value → Prop} {St : Nat → Heap → Prop} {hbI : Heap} (W : Walks prog w A I fp wr n P St) (hn : ∀ b ∈ wr, hbI.get? b = none) :
    Walks prog w A I (fp ++ liveIn hbI) wr n P (fun i h => St i h ∧ Le hbI h) where
  sub := fun b hb => List.mem_append_left _ (W.sub b hb)
  frame := fun i h h' st hk => ⟨W.frame _ _ _ st.1 fun b hb => hk b (List.mem_append_left _ hb), fun b o e => hk b (List.mem_append_right _ (mem_liveIn e)) o (st.2 b o e)⟩
  item := fun i s Q E hi st hQ => W.item i s Q E hi st.1 fun v h' tk hP hS hk => hQ v h' tk hP ⟨hS, fun b o e => hk b o (fun q => by rw [hn b q] at e; cases e) (st.2 b o e)⟩ hk
  done := fun s Q E st hQ => W.done s Q E st.1 hQ
  self := fun i s Q E st hQ => W.self i s Q E st.1 hQ

section
variable {prog : Program} {w : World} {A : Around} {R : Result → Shared → Prop} {I : Addr} {fp wr : List Addr} {n : Nat} {P : Nat → Value → Prop} {St : Nat → Heap → Prop}
def TruthIn (prog : Program) (w : World) (A : Around) (n : Nat) (P : Nat → Value → Prop) (St : Nat → Heap → Prop) (tr : Nat → Bool) : Prop :=
  ∀ i v (s : Shared) (Q : Bool → Shared → Prop) (E : Value → Shared → Prop), i < n → P i v → St (i + 1) s.heap → (∀ tk, Q (tr i) { s with toks := tk }) → wpAny (model prog w) A (truthy v) Q E s
theorem all_loop (W : Walks prog w A.in1 I fp wr n P St) (tr : Nat → Bool) (htr : TruthIn prog w A.in1 n P St tr) : ∀ (k i : Nat) (s : Shared), n - i = k → i ≤ n → St i s.heap →
    (∀ h' tk, (∀ b o, b ∉ wr → s.heap.get? b = some o → h'.get? b = some o) → R (.ok (.ret (.bool (((List.range n).drop i).all tr)))) { s with heap := h', toks := tk }) →
    codeAny (model prog w) A (.builtin "all.loop" ⟨[.ref I], []⟩) R s := by
  intro k
  induction k with
  | zero =>
    intro i s hk hi hst hR
    have hin : i = n := by omega
    subst hin
    refine codeAny_builtin PySem.F.entry_all_loop ?_
    rw [Around.under_plainId PySem.F.plain_all_loop _]
    show wpAny _ A.in1 (pyNext (.ref I) >>= _) _ _ s
    refine wpAny_bind (W.done s _ _ hst fun h' tk hk' => ?_)
    refine wpAny_bind (wpAny_rule (wpAny_pure ?_))
    have := hR h' tk hk'
    rw [List.drop_of_length_le (by simp)] at this
    exact this
  | succ k ih =>
    intro i s hk hi hst hR
    have hlt : i < n := by omega
    have hd : (List.range n).drop i = i :: (List.range n).drop (i + 1) := by
      rw [List.drop_eq_getElem_cons (by simpa using hlt)]; simp
    refine codeAny_builtin PySem.F.entry_all_loop ?_
    rw [Around.under_plainId PySem.F.plain_all_loop _]
    show wpAny _ A.in1 (pyNext (.ref I) >>= _) _ _ s
    refine wpAny_bind (W.item i s _ _ hlt hst fun v h' tk hP hst' hk' => ?_)
    refine wpAny_bind (wpAny_holding (htr i v _ _ _ hlt hP hst' fun tk' => ?_))
    refine wpAny_bind (wpAny_letGo ?_)
    cases hb : tr i with
    | true =>
      simp only [if_true]
      refine wpAny_pure ⟨plainId_quiet PySem.F.plain_all_loop _, ih (i + 1) _ (by omega) hlt hst' fun h'' tk'' hk'' => ?_⟩
      have := hR h'' tk'' fun b o hbw e => hk'' b o hbw (hk' b o hbw e)
      rw [hd, List.all_cons, hb, Bool.true_and] at this
      exact this
    | false =>
      simp only [Bool.false_eq_true, if_false]
      refine wpAny_bind (wpAny_rule (wpAny_pure ?_))
      have := hR h' tk' hk'
      rw [hd, List.all_cons, hb, Bool.false_and] at this
      exact this
end

def pick2 {α : Type} (a b : α) : Nat → α
  | 0 => a
  | _ => b
theorem pick2_get {xs ys : List PyData} : ∀ i, i < 2 → ((([PyData.list xs, PyData.list ys] : List PyData).map D.py))[i]? = some (.py (.list (pick2 xs ys i)))
  | 0, _ => rfl
  | 1, _ => rfl
theorem pick2_lt {xs ys : List PyData} {m : Nat} (h1 : xs.length < m) (h2 : ys.length < m) : ∀ i, (pick2 xs ys i).length < m
  | 0 => h1
  | _ + 1 => h2
theorem FnC.all_pair {w : World} {n : Nat} {P : Heap → Prop} {xs ys : List PyData} (h1 : xs.length < 2 ^ 62) (h2 : ys.length < 2 ^ 62) :
    FnC w (.builtin "all") n P [.py (.tuple [.list xs, .list ys])] [] (fun h v => V h v (.py (.bool (!xs.isEmpty && !ys.isEmpty)))) := by
  intro A l s hb R B hP a ha E
  obtain ⟨v, rfl, hv⟩ := ha.one
  obtain ⟨t, o, vs, k, rfl, g1, g2, g3, g4⟩ := hv.tuple_inv
  have hl := g4.length
  simp only [List.length_map, Array.length_toList, List.length_cons, List.length_nil, Nat.zero_add, Nat.reduceAdd] at hl
  have ho := B.le _ _ g1
  refine call_function_tree PySem.F.kind_all PySem.F.plain_all PySem.F.entry_all (PySem.F.args_all1 _) ?_
  unfold Builtin.«all»
  refine wpAny_bind (m := oneArg "all" _) (wpAny_pure ?_)
  refine wpAny_bind (wpAny_pyIter_tuple ⟨o, ho, g2, k, g3⟩ ?_)
  have hne : t ≠ s.heap.objs.size := Nat.ne_of_lt (Heap.lt_size ho)
  have hnb : hb.get? s.heap.objs.size = none := by
    cases e : hb.get? s.heap.objs.size with
    | none => rfl
    | some o => have := B.le _ _ e; rw [fresh_size] at this; cases this
  have W := walks_le (hbI := hb) (Walks.tuple (prog := PW) (w := w) (A := A.in1) R.han s.heap.objs.size t hne vs) (fun b hb' => by
    rcases List.mem_cons.mp hb' with rfl | hb'
    · exact hnb
    · cases hb')
  rw [hl] at W
  refine wpAny_pure ⟨plainId_quiet PySem.F.plain_all_loop _, all_loop W (fun i => !(pick2 xs ys i).isEmpty) (fun i v s' Q E' hi hP hst hQ => ?_) 2 0 _ rfl (Nat.zero_le _) ⟨⟨⟨_, Heap.get?_push_size _ rfl, rfl, rfl⟩, o, Heap.get?_push_of_some _ ho, g2, k, g3⟩, fun b o e => Heap.get?_push_of_some _ (B.le b o e)⟩ fun h' tk hk => ?_⟩
  · obtain ⟨u, hu, hv⟩ := g4.get (pick2_get i hi)
    have : v = u := by
      rw [Array.getElem?_toList, hP] at hu; exact Option.some.inj hu
    subst this
    exact TrX.list (pick2_lt h1 h2 i) w _ hb s' v hv hst.2 _ _ hQ
  · refine ⟨hb, B.same ⟨h', tk, rfl, fun b o e => hk b o (fun q => ?_) (Heap.get?_push_of_some _ e)⟩, ?_⟩
    · rcases List.mem_cons.mp q with rfl | q
      · rw [fresh_size] at e; cases e
      · cases q
    · have : ((List.range 2).drop 0).all (fun i => !(pick2 xs ys i).isEmpty) = (!xs.isEmpty && !ys.isEmpty) := by
        simp [List.range_succ, pick2]
      rw [this]
      exact V.bool
end Mine
end

/-! ## F30 -/
section
set_option maxRecDepth 100000
namespace Mine

def setObj (led : Bool) : Obj := { cls := .type "set", dict := none, data := .set #[] 0 (.fresh 0 0 led) }
def tupIter (t : Addr) : Obj := { cls := .type "tuple_iterator", data := .fields #[.ref t, .int 0 0] }
theorem sub_tuple_set : isSubtype (.type "tuple") (.type "set") = pure false := by rw [isSubtype_type]; kernel_rfl
theorem sub_tuple_frozenset : isSubtype (.type "tuple") (.type "frozenset") = pure false := by rw [isSubtype_type]; kernel_rfl

section
variable {w : World} {A : Around} {E : Value → Shared → Prop} {s : Shared}
set_option maxHeartbeats 3200000 in
theorem call_set_tuple {l : Addr} {items : Array Value} {Q : Value → Shared → Prop} (hl : s.heap.IsTuple l items)
    (h : ∀ led, codeAny (MM w) A.in1.in1 (.builtin "set.update.loop" ⟨[.ref s.heap.objs.size, .ref (s.heap.push (setObj led)).objs.size], []⟩) (wants (fun r s₂ => r = .none ∧ Q (.ref s.heap.objs.size) s₂) E)
      { s with heap := (s.heap.push (setObj led)).push (tupIter l) }) :
    wpAny (MM w) A (call (.type "set") [.ref l]) Q E s := by
  obtain ⟨c, tl, hmro⟩ := PySem.F.called_set.mro
  have hmade := PySem.F.called_set.made
  have hsub := PySem.F.called_set.sub
  refine wpAny_call (codeAny_of_tree ?_)
  show wpAny _ _ (callAny (.type "set") _) _ _ _
  refine wpAny_pure ⟨Code.quiet_builtin _ (by decide +kernel), codeAny_builtin PySem.F.entry_type_call ?_⟩
  rw [Around.under_plain (weight_type_call_type "set" [.ref l] []) rfl]
  have h1 := PySem.F.called_set.notType
  have h2 := PySem.F.called_set.canCreate
  have hct := PySem.F.typeCall_set_1 (.ref l)
  repeat (any_goals (first | assumption | wp_step))
  refine codeAny_mono (code_set_new_1 (.ref l) (E := E) (Q₁ := fun obj s₁ => ∃ led : Bool, obj = .ref s.heap.objs.size ∧ s₁ = { s with heap := s.heap.push (setObj led) }) fun led => ⟨led, rfl, rfl⟩) fun r s₁ hr => ?_
  cases r with
  | error e => exact hr
  | ok fl =>
    cases fl with
    | ret obj =>
      obtain ⟨led, rfl, rfl⟩ := hr
      have hS : (s.heap.push (setObj led)).get? s.heap.objs.size = some { cls := .type "set", dict := none, data := .set #[] 0 (.fresh 0 0 led) } := Heap.get?_push_size _ rfl
      have hT : Shared.TypeIs { s with heap := s.heap.push (setObj led) } (.ref s.heap.objs.size) "set" := ⟨_, hS, rfl⟩
      have hli := PySem.F.called_set.init.lookup
      have hbi := PySem.F.called_set.init.bind (.ref s.heap.objs.size)
      repeat (any_goals (first | assumption | wp_step))
      refine codeAny_mono (codeAny_call_builtin (R := wants (fun r s₂ => r = .none ∧ Q (.ref s.heap.objs.size) s₂) E) PySem.F.called_set.init.plain PySem.F.entry_set_init (check_set_init_1 hT ?_)) fun r₂ s₂ hr₂ => ?_
      · obtain ⟨ol, hol, hcl, nl, hdl⟩ := hl
        obtain ⟨ocls, odict, odata, oslots⟩ := ol
        simp only at hcl hdl
        subst hcl; subst hdl
        have hol' : (s.heap.push (setObj led)).get? l = some { cls := .type "tuple", dict := odict, data := .seq items nl, slots := oslots } := Heap.get?_push_of_some _ hol
        have hsls := sub_tuple_set
        have hslf := sub_tuple_frozenset
        have hne : (Value.type "tuple" == Value.type "dict") = false := by decide
        have hl1 : (s.heap.push (setObj led)).IsTuple l items := ⟨_, hol', rfl, nl, rfl⟩
        unfold Builtin.«set.__init__» noKeywords Builtin.Frozenset.updateFrom
        generalize hPI : pyIter = PI
        wp_walk
        subst hPI
        refine wpAny_pyIter_tuple hl1 ?_
        refine wpAny_bind (wpAny_runValue ?_)
        refine codeAny_mono (h led) fun r s' hr => ?_
        cases r with
        | error e => exact hr
        | ok f =>
          cases f with
          | ret v =>
            obtain ⟨rfl, hq⟩ := hr
            show wpAny _ _ _ _ _ _
            refine wpAny_pure ?_
            show wpAny _ _ (ret Value.none) _ _ _
            exact wpAny_pure ⟨rfl, hq⟩
          | _ => exact hr.elim
      · cases r₂ with
        | error e => exact hr₂
        | ok fl₂ =>
          cases fl₂ with
          | ret r =>
            obtain ⟨rfl, hq⟩ := hr₂
            repeat (any_goals (first | assumption | wp_step))
          | _ => exact hr₂.elim
    | _ => exact hr.elim
end
end Mine
end

/-! ## F31 -/
section
set_option maxRecDepth 100000
namespace Mine
open SetTable

/-! ### the table of a set of one -/
def tab1 (j : Nat) (led b : Bool) : SetTable := { mask := 7, place := #[j], dummies := #[], finger := 0, led, moves := 0, plain := b }
def pr (i per : Nat) : Probe := { j := i, more := 0, i, perturb := per, dummy := none }
theorem slot0 (led : Bool) (i : Nat) : (SetTable.fresh 0 0 led).slot i = .empty := by
  simp [SetTable.slot, SetTable.fresh, SetTable.below, SetTable.below.go, SetTable.has]
theorem below1 (j i : Nat) : below #[j] i = if j < i then 1 else 0 := by
  simp [below, below.go]
theorem slot1 (j i : Nat) (led b : Bool) : (tab1 j led b).slot i = if i = j then .live 0 else .empty := by
  have hh : has #[] i = false := by simp [has, below, below.go]
  simp only [SetTable.slot, tab1, below1, hh]
  by_cases h1 : j < i
  · have : i ≠ j := by omega
    simp [h1, this]
  · by_cases h2 : i = j
    · subst h2; simp
    · simp [h1, h2, Ne.symm h2]
theorem start_fresh (h : Int) (led : Bool) : (SetTable.fresh 0 0 led).probeStart h = pr (bits h % 8) (bits h) := by
  have : ¬ (bits h % 8 + 9 ≤ 7) := by omega
  simp [probeStart, SetTable.fresh, pr, runEnd, this]
theorem start1 (h : Int) (j : Nat) (led b : Bool) : (tab1 j led b).probeStart h = pr (bits h % 8) (bits h) := by
  have : ¬ (bits h % 8 + 9 ≤ 7) := by omega
  simp [probeStart, tab1, pr, runEnd, this]
theorem adv1 (i per j : Nat) (led b : Bool) : (tab1 j led b).advance (pr i per) = pr ((i * 5 + 1 + per / 32) % 8) (per / 32) := by
  have : ¬ ((i * 5 + 1 + per / 32) % 8 + 9 ≤ 7) := by omega
  simp [advance, pr, leap, tab1, runEnd, this]
theorem bits_lt (h : Int) : bits h < 32 ^ 13 := by
  unfold bits
  have h1 : h % (2 ^ 64 : Int) < 2 ^ 64 := Int.emod_lt_of_pos _ (by decide)
  have h0 : 0 ≤ h % (2 ^ 64 : Int) := Int.emod_nonneg _ (by decide)
  have : (h % (2 ^ 64 : Int)).toNat < 2 ^ 64 := by omega
  have e : (2 : Nat) ^ 64 ≤ 32 ^ 13 := by decide
  omega

theorem probe0 (f : Nat → Int) (h : Int) (led : Bool) (p : Probe) (hp : p.dummy = none) : (SetTable.fresh 0 0 led).probe f h p = some (.empty p.j none) := by
  have : ∃ n, 10 * turns (SetTable.fresh 0 0 led).mask = n + 1 := ⟨219, rfl⟩
  obtain ⟨n, e⟩ := this
  unfold SetTable.probe
  rw [e]
  unfold SetTable.probe.go
  rw [slot0, hp]

theorem go_here (f : Nat → Int) (h : Int) (j i per n : Nat) (led b : Bool) (hi : i ≠ j) : SetTable.probe.go (tab1 j led b) f h (n + 1) (pr i per) = some (.empty i none) := by
  unfold SetTable.probe.go
  rw [show (pr i per).j = i from rfl, slot1, if_neg hi]
  rfl
theorem go_cand (f : Nat → Int) (h : Int) (i per n : Nat) (led b : Bool) (hf : f 0 = h) : SetTable.probe.go (tab1 i led b) f h (n + 1) (pr i per) = some (.candidate i 0 (pr ((i * 5 + 1 + per / 32) % 8) (per / 32))) := by
  unfold SetTable.probe.go
  rw [show (pr i per).j = i from rfl, slot1, if_pos rfl]
  dsimp only
  rw [hf, if_pos (by simp), adv1]
theorem go_on (f : Nat → Int) (h : Int) (i per n : Nat) (led b : Bool) (hf : f 0 ≠ h) : SetTable.probe.go (tab1 i led b) f h (n + 1) (pr i per) = SetTable.probe.go (tab1 i led b) f h n (pr ((i * 5 + 1 + per / 32) % 8) (per / 32)) := by
  rw [SetTable.probe.go]
  rw [show (pr i per).j = i from rfl, slot1, if_pos rfl]
  dsimp only
  rw [if_neg (by simpa using hf), adv1]
theorem go_empty (f : Nat → Int) (h : Int) (j : Nat) (led b : Bool) (hf : f 0 ≠ h) : ∀ k n i per, per < 32 ^ k → k + 2 ≤ n → ∃ j', SetTable.probe.go (tab1 j led b) f h n (pr i per) = some (.empty j' none)
  | k, n, i, per, hp, hn => by
    obtain ⟨m, rfl⟩ : ∃ m, n = m + 1 := ⟨n - 1, by omega⟩
    by_cases hi : i = j
    · subst hi
      rw [go_on f h i per m led b hf]
      cases k with
      | zero =>
        have : per = 0 := by simpa using hp
        subst this
        obtain ⟨m', rfl⟩ : ∃ m', m = m' + 1 := ⟨m - 1, by omega⟩
        exact ⟨_, go_here f h _ _ _ _ _ _ (by omega)⟩
      | succ k => exact go_empty f h i led b hf k m _ _ (by rw [Nat.pow_succ] at hp; omega) (by omega)
    · exact ⟨_, go_here f h _ _ _ _ _ _ hi⟩

theorem probe1_empty (f : Nat → Int) (h : Int) (j : Nat) (led b : Bool) (hf : f 0 ≠ h) : ∃ j', (tab1 j led b).probe f h ((tab1 j led b).probeStart h) = some (.empty j' none) := by
  rw [start1]
  exact go_empty f h j led b hf 13 220 _ _ (bits_lt h) (by decide)
theorem probe1_met (f : Nat → Int) (h : Int) (j i per : Nat) (led b : Bool) : (∃ j', (tab1 j led b).probe f h (pr i per) = some (.empty j' none)) ∨ f 0 ≠ h ∨
    (i = j ∧ (tab1 j led b).probe f h (pr i per) = some (.candidate j 0 (pr ((i * 5 + 1 + per / 32) % 8) (per / 32)))) := by
  have e : 10 * turns (tab1 j led b).mask = 219 + 1 := rfl
  by_cases hi : i = j
  · by_cases hf : f 0 = h
    · subst hi
      exact .inr (.inr ⟨rfl, by unfold SetTable.probe; rw [e]; exact go_cand f h _ _ _ _ _ hf⟩)
    · exact .inr (.inl hf)
  · exact .inl ⟨i, by unfold SetTable.probe; rw [e]; exact go_here f h _ _ _ _ _ _ hi⟩

theorem put0 (j : Nat) (led : Bool) : (SetTable.fresh 0 0 led).put j = (tab1 j led true, 0) := by
  simp [SetTable.put, SetTable.fresh, below, below.go, insertAt, has, tab1]
theorem insertAt_size {α : Type} (a x : α) (p : Nat) (hp : p ≤ 1) : (insertAt #[a] p x).size = 2 := by
  unfold insertAt
  rcases Nat.le_one_iff_eq_zero_or_eq_one.mp hp with rfl | rfl <;> simp
theorem put1 (j j' : Nat) (led b : Bool) : ∃ t p, (tab1 j led b).put j' = (t, p) ∧ t.place.size = 2 ∧ t.mask = 7 ∧ t.dummies = #[] ∧ p ≤ 1 ∧ t.plain = b := by
  refine ⟨_, _, rfl, ?_, rfl, ?_, ?_, rfl⟩
  · show (insertAt #[j] (below #[j] j') j').size = 2
    refine insertAt_size _ _ _ ?_
    rw [below1]; split <;> omega
  · simp [tab1, has, below, below.go]
  · show below #[j] j' ≤ 1
    rw [below1]; split <;> omega
end Mine
end

/-! ## F32 -/
section
set_option maxRecDepth 100000
namespace Mine
open SetTable

structure Key (w : World) (hb : Heap) (v : Value) (H : Int) : Prop where
  hash : ∀ (A : Around) (s : Shared) (E : Value → Shared → Prop) (Q : Int → Shared → Prop), A.units + 50 < cLine → Le hb s.heap → (∀ tk, Q H { s with toks := tk }) → wpAny (MM w) A (pyHash v) Q E s
  byVal : ∀ (A : Around) (s : Shared) (E : Value → Shared → Prop) (Q : Bool → Shared → Prop), Le hb s.heap → (∀ b, Q b s) → wpAny (MM w) A (hashByValue 8 v) Q E s
def Quiet (w : World) (hb : Heap) (v : Value) : Prop := ∀ (A : Around) (s : Shared) (E : Value → Shared → Prop) (Q : Bool → Shared → Prop), Le hb s.heap → Q true s → wpAny (MM w) A (eqIsQuiet 8 v) Q E s
def NotOwnCls (w : World) (hb : Heap) (v : Value) : Prop := ∀ (A : Around) (s : Shared) (E : Value → Shared → Prop) (Q : Bool → Shared → Prop), Le hb s.heap → Q false s → wpAny (MM w) A (ofAClassStatement 8 v) Q E s
def SameSelf (w : World) (v : Value) : Prop := ∀ (A : Around) (s : Shared) (E : Value → Shared → Prop) (Q : Bool → Shared → Prop), Q true s → wpAny (MM w) A (isSame v v) Q E s
def EqB (w : World) (hb : Heap) (y x : Value) (b : Bool) : Prop := ∀ (A : Around) (s : Shared) (E : Value → Shared → Prop) (Q : Bool → Shared → Prop), A.units + 50 < cLine → Le hb s.heap → (∀ tk, Q b { s with toks := tk }) → wpAny (MM w) A (eqBool y x) Q E s

def setO (es : Array (Int × Value)) (ep : Nat) (t : SetTable) : Obj := { cls := .type "set", dict := none, data := .set es ep t }
theorem setO_put {es es' : Array (Int × Value)} {ep : Nat} {t t' : SetTable} {h : Heap} {S : Addr} (e : h.get? S = some (setO es ep t)) : (h.update S (Obj.putSet es' t')).get? S = some (setO es' (ep + 1) t') := by
  have := Heap.get?_update_self (Obj.putSet es' t') e (by rw [putSet_of es' t' rfl]; rfl)
  rw [putSet_of es' t' rfl] at this; exact this

section
variable {w : World} {A : Around} {E : Value → Shared → Prop} {s : Shared} {hb : Heap}

theorem layNew_fresh (led : Bool) (H : Int) (x : Value) : layNew (SetTable.fresh 0 0 led) #[] H x = (#[(H, x)], tab1 (bits H % 8) led true, false, false) := by
  have e : (SetTable.fresh 0 0 led).freeSlot H = some (bits H % 8, false) := by
    unfold SetTable.freeSlot
    rw [start_fresh, probe0 _ _ _ _ rfl]
    rfl
  unfold layNew
  rw [e]
  dsimp only
  rw [put0]
  simp [insertAt, SetTable.orStandIn, SetTable.fits, tab1, SetTable.fill]

theorem add_first {S : Addr} {led : Bool} {x : Value} {H : Int} {Q : Bool → Shared → Prop} (hS : s.heap.get? S = some (setO #[] 0 (.fresh 0 0 led))) (K : Key w hb x H) (hle : Le hb s.heap) (hSn : hb.get? S = none) (hu : A.units + 50 < cLine)
    (hQ : ∀ b tk h', h'.get? S = some (setO #[(H, x)] 1 (tab1 (bits H % 8) led b)) → Heap.SameBut S s.heap h' → Q true { s with heap := h', toks := tk }) : wpAny (MM w) A (setAdd S x) Q E s := by
  have hf0 : (SetTable.fresh 0 0 led).fits (#[] : Array (Int × Value)).size = true := by simp [SetTable.fits, SetTable.fresh, SetTable.fill]
  unfold setAdd
  refine wpAny_holding (wpAny_bind (K.hash _ _ _ _ hu hle fun tk => ?_))
  unfold setAddHashed setAddHashedIn
  refine wpAny_holding (wpAny_bind (wpAny_setState_of (s := { s with toks := tk }) hS rfl hf0 ?_))
  dsimp only
  cases hx : x.scannable with
  | true =>
    rw [show byScan x #[] = true from by simp [byScan, hx, scanBound]]
    simp only [if_true]
    unfold setAddByScan
    refine wpAny_bind (wpAny_bind (wpAny_rule (wpAny_bind ?_)))
    have hsc : setScan S x H true #[] = pure .absent := by
      cases x <;> simp [setScan, setScanFrom, setScanStrs]
    rw [hsc]
    refine wpAny_pure ?_
    dsimp only
    rw [layNew_fresh]
    dsimp only
    refine wpAny_bind (wpAny_pure ?_)
    rw [hashByValue_scannable 8 hx]
    rw [if_pos (show (tab1 (bits H % 8) led true).plain = true from rfl)]
    refine wpAny_bind (wpAny_pure ?_)
    refine wpAny_bind (wpAny_storeSet_of (s := { s with toks := tk }) hS rfl ?_ (by simp [sizeLine_eq]))
    have hnf : ∀ t : SetTable, t.mask = 7 → t.place.size = 1 → t.dummies = #[] → t.tooFull = false := fun t h1 h2 h3 => by simp [SetTable.tooFull, SetTable.fill, h1, h2, h3]
    cases hp : plainKind x with
    | true =>
      simp only [if_true]
      rw [hnf _ rfl rfl rfl]
      simp only [Bool.not_false, Bool.and_false, Bool.false_eq_true, if_false]
      exact wpAny_pure (wpAny_pure (hQ true tk _ (setO_put hS) (Heap.SameBut.update ..)))
    | false =>
      simp only [Bool.false_eq_true, if_false]
      rw [hnf _ rfl rfl rfl]
      simp only [Bool.not_false, Bool.and_false, Bool.false_eq_true, if_false]
      exact wpAny_pure (wpAny_pure (hQ false tk _ (setO_put (t' := tab1 (bits H % 8) led false) hS) (Heap.SameBut.update ..)))
  | false =>
    rw [show byScan x #[] = false from by simp [byScan, hx]]
    simp only [Bool.false_eq_true, if_false]
    refine wpAny_bind ?_
    unfold setSearch setSearchFrom
    refine wpAny_bind (wpAny_setState_of (s := { s with toks := tk }) hS rfl hf0 ?_)
    dsimp only
    rw [show (SetTable.fresh 0 0 led).gaveWay = false from by simp [SetTable.gaveWay, SetTable.fresh]]
    simp only [Bool.false_eq_true, if_false]
    rw [Option.getD_none, start_fresh, probe0 _ _ _ _ rfl]
    dsimp only
    refine wpAny_pure ?_
    dsimp only
    refine wpAny_bind (wpAny_setState_of (s := { s with toks := tk }) hS rfl hf0 ?_)
    dsimp only
    rw [show (pr (bits H % 8) (bits H)).j = bits H % 8 from rfl, put0]
    dsimp only
    rw [if_pos (show (tab1 (bits H % 8) led true).plain = true from rfl)]
    refine wpAny_bind (K.byVal _ _ _ _ hle fun b => ?_)
    have e1 : insertAt (#[] : Array (Int × Value)) 0 (H, x) = #[(H, x)] := by simp [insertAt]
    rw [e1]
    refine wpAny_bind (wpAny_storeSet_of (s := { s with toks := tk }) hS rfl ?_ (by simp [sizeLine_eq]))
    have hnf : ∀ t : SetTable, t.mask = 7 → t.place.size = 1 → t.dummies = #[] → t.tooFull = false := fun t h1 h2 h3 => by simp [SetTable.tooFull, SetTable.fill, h1, h2, h3]
    cases b with
    | true =>
      simp only [if_true]
      rw [hnf _ rfl rfl rfl]
      simp only [Bool.not_false, Bool.and_false, Bool.false_eq_true, if_false]
      exact wpAny_pure (hQ true tk _ (setO_put hS) (Heap.SameBut.update ..))
    | false =>
      simp only [Bool.false_eq_true, if_false]
      rw [hnf _ rfl rfl rfl]
      simp only [Bool.not_false, Bool.and_false, Bool.false_eq_true, if_false]
      exact wpAny_pure (hQ false tk _ (setO_put (t' := tab1 (bits H % 8) led false) hS) (Heap.SameBut.update ..))
end
end Mine
end

/-! ## F33 -/
section
set_option maxRecDepth 100000
namespace Mine
open SetTable

theorem tab1_fits (j : Nat) (led b : Bool) (e : Int × Value) : (tab1 j led b).fits (#[e] : Array (Int × Value)).size = true := by simp [SetTable.fits, tab1, SetTable.fill]
theorem tab1_gave (j : Nat) (led b : Bool) : (tab1 j led b).gaveWay = false := by simp [SetTable.gaveWay, tab1]
theorem not_full2 {t : SetTable} (h1 : t.mask = 7) (h2 : t.place.size = 2) (h3 : t.dummies = #[]) : t.tooFull = false := by simp [SetTable.tooFull, SetTable.fill, h1, h2, h3]
theorem fits2 {t : SetTable} (h1 : t.mask = 7) (h2 : t.place.size = 2) (h3 : t.dummies = #[]) : t.fits 2 = true := by simp [SetTable.fits, SetTable.fill, h1, h2, h3]

theorem layNew_one (j : Nat) (led b : Bool) (e : Int × Value) (H : Int) (x : Value) : ∃ es t, layNew (tab1 j led b) #[e] H x = (es, t, false, false) ∧ es.size = 2 ∧ t.mask = 7 ∧ t.place.size = 2 ∧ t.dummies = #[] := by
  obtain ⟨j', hj⟩ := probe1_empty (fun _ => H + 1) H j led b (show H + 1 ≠ H by omega)
  obtain ⟨t, p, hp, h1, h2, h3, h4, h5⟩ := put1 j j' led b
  have e1 : (tab1 j led b).freeSlot H = some (j', false) := by
    unfold SetTable.freeSlot
    rw [hj]
    rfl
  have hs : (insertAt #[e] p (H, x)).size = 2 := insertAt_size _ _ _ h4
  refine ⟨insertAt #[e] p (H, x), t, ?_, hs, h2, h1, h3⟩
  unfold layNew
  rw [e1]
  dsimp only
  rw [hp]
  dsimp only
  rw [hs, SetTable.orStandIn, fits2 h2 h1 h3]
  rfl

section
variable {w : World} {A : Around} {E : Value → Shared → Prop} {s : Shared} {hb : Heap}

theorem wpAny_either {M : Model} {α : Type} {p : Prop} [Decidable p] {t e : Sem α} {Q : α → Shared → Prop} (ht : wpAny M A t Q E s) (he : wpAny M A e Q E s) : wpAny M A (if p then t else e) Q E s := by
  split
  · exact ht
  · exact he
theorem could_be_seen {x y : Value} {Q : Bool → Shared → Prop} (hx : Quiet w hb x) (hy : Quiet w hb y) (cx : NotOwnCls w hb x) (cy : NotOwnCls w hb y) (hle : Le hb s.heap) (hQ : Q false s) : wpAny (MM w) A (searchCouldBeSeen x [y]) Q E s := by
  unfold searchCouldBeSeen
  rw [List.forIn_cons]
  refine wpAny_bind (wpAny_bind ?_)
  dsimp only
  refine wpAny_either ?_ ?_
  · refine wpAny_pure ?_
    dsimp only
    rw [List.forIn_nil]
    exact wpAny_pure (wpAny_pure hQ)
  · refine wpAny_bind (hx _ _ _ _ hle ?_)
    simp only [Bool.not_true, Bool.false_eq_true, if_false]
    refine wpAny_bind (hy _ _ _ _ hle ?_)
    simp only [Bool.not_true, Bool.false_eq_true, if_false]
    refine wpAny_bind (cx _ _ _ _ hle ?_)
    simp only [Bool.false_eq_true, if_false]
    refine wpAny_bind (cy _ _ _ _ hle ?_)
    simp only [Bool.false_eq_true, if_false]
    refine wpAny_pure ?_
    dsimp only
    rw [List.forIn_nil]
    exact wpAny_pure (wpAny_pure hQ)

theorem search_away {S : Addr} {led b0 : Bool} {x y : Value} {H1 H : Int} {j i per n : Nat} {stand : Option Probe} {Q : SetFound → Shared → Prop} (hS : s.heap.get? S = some (setO #[(H1, y)] 1 (tab1 j led b0))) (hi : i ≠ j)
    (hst : stand.getD ((tab1 j led b0).probeStart H) = pr i per) (hQ : ∀ j', Q (.free j' false) s) : wpAny (MM w) A (setSearchFrom S x H true (n + 1) stand) Q E s := by
  unfold setSearchFrom
  refine wpAny_bind (wpAny_setState_of hS rfl (tab1_fits ..) ?_)
  dsimp only
  rw [tab1_gave]
  simp only [Bool.false_eq_true, if_false]
  rw [hst, show (tab1 j led b0).probe _ H (pr i per) = some (.empty i none) from by
    unfold SetTable.probe; exact go_here _ _ _ _ _ 219 _ _ hi]
  dsimp only
  exact wpAny_pure (hQ i)

theorem search_new {S : Addr} {led b0 : Bool} {x y : Value} {H1 H : Int} {j : Nat} {Q : SetFound → Shared → Prop} (hx : Quiet w hb x) (hy : Quiet w hb y) (cx : NotOwnCls w hb x) (cy : NotOwnCls w hb y) (sy : SameSelf w y) (heq : EqB w hb y x false) (hu : A.units + 50 < cLine) :
    ∀ (k n i per : Nat) (stand : Option Probe) (s : Shared), per < 32 ^ k → k + 2 ≤ 220 → k + 2 ≤ n → Le hb s.heap → s.heap.get? S = some (setO #[(H1, y)] 1 (tab1 j led b0)) → stand.getD ((tab1 j led b0).probeStart H) = pr i per →
      (∀ j' tk, Q (.free j' false) { s with toks := tk }) → wpAny (MM w) A (setSearchFrom S x H true n stand) Q E s
  | k, n, i, per, stand, s, hpk, hk220, hn, hle, hS, hst, hQ => by
    obtain ⟨m, rfl⟩ : ∃ m, n = m + 1 := ⟨n - 1, by omega⟩
    by_cases hi : i = j
    · subst hi
      by_cases hH : H1 = H
      · subst hH
        unfold setSearchFrom
        refine wpAny_bind (wpAny_setState_of hS rfl (tab1_fits ..) ?_)
        dsimp only
        rw [tab1_gave]
        simp only [Bool.false_eq_true, if_false]
        rw [hst, show (tab1 i led b0).probe _ H1 (pr i per) = some (.candidate i 0 (pr ((i * 5 + 1 + per / 32) % 8) (per / 32))) from by
          unfold SetTable.probe; exact go_cand _ _ _ _ 219 _ _ rfl]
        dsimp only
        have fin : ∀ (s' : Shared) (tk : Nat), s' = { s with toks := tk } → wpAny (MM w) A (setSearchFrom S x H1 true m (some (pr ((i * 5 + 1 + per / 32) % 8) (per / 32)))) Q E s' := by
          rintro s' tk rfl
          cases k with
          | zero =>
            have : per = 0 := by simpa using hpk
            subst this
            obtain ⟨m', rfl⟩ : ∃ m', m = m' + 1 := ⟨m - 1, by omega⟩
            exact search_away (s := { s with toks := tk }) hS (by omega) rfl fun j' => hQ j' tk
          | succ k => exact search_new hx hy cx cy sy heq hu k m _ _ _ { s with toks := tk } (by rw [Nat.pow_succ] at hpk; omega) (by omega) (by omega) hle hS rfl fun j' tk' => hQ j' tk'
        refine wpAny_either ?_ ?_
        · have e1 : List.map (fun x => x.2) (Array.filter (fun x => x.1 == H1) #[(H1, y)]).toList = [y] := by simp
          rw [e1]
          refine wpAny_bind (could_be_seen hx hy cx cy hle ?_)
          simp only [Bool.false_eq_true, if_false]
          show wpAny _ _ (holding [y] (eqBool y x) >>= _) _ _ _
          refine wpAny_bind (wpAny_holding (heq _ _ _ _ hu hle fun tk => ?_))
          refine wpAny_bind (wpAny_setState_of (s := { s with toks := tk }) hS rfl (tab1_fits ..) ?_)
          simp only [Bool.and_false, Bool.false_eq_true, if_false]
          rw [show (tab1 i led b0).sameMemory (tab1 i led b0).moves (tab1 i led b0).mask = some true from by simp [SetTable.sameMemory]]
          dsimp only
          rw [if_pos rfl, slot1, if_pos rfl]
          show wpAny _ _ (isSame y y >>= _) _ _ _
          refine wpAny_bind (sy _ _ _ _ (wpAny_bind (wpAny_pure ?_)))
          exact fin _ tk rfl
        · show wpAny _ _ (holding [y] (eqBool y x) >>= _) _ _ _
          refine wpAny_bind (wpAny_holding (heq _ _ _ _ hu hle fun tk => ?_))
          refine wpAny_bind (wpAny_setState_of (s := { s with toks := tk }) hS rfl (tab1_fits ..) ?_)
          simp only [Bool.and_false, Bool.false_eq_true, if_false]
          rw [show (tab1 i led b0).sameMemory (tab1 i led b0).moves (tab1 i led b0).mask = some true from by simp [SetTable.sameMemory]]
          dsimp only
          rw [if_pos rfl, slot1, if_pos rfl]
          show wpAny _ _ (isSame y y >>= _) _ _ _
          refine wpAny_bind (sy _ _ _ _ (wpAny_bind (wpAny_pure ?_)))
          exact fin _ tk rfl
      · unfold setSearchFrom
        refine wpAny_bind (wpAny_setState_of hS rfl (tab1_fits ..) ?_)
        dsimp only
        rw [tab1_gave]
        simp only [Bool.false_eq_true, if_false]
        rw [hst]
        generalize hp : SetTable.probe (tab1 i led b0) _ H (pr i per) = pb
        obtain ⟨j', hj⟩ : ∃ j', pb = some (.empty j' none) := by
          rw [← hp]
          exact go_empty _ H i led b0 (show H1 ≠ H from hH) k 220 i per hpk hk220
        rw [hj]
        dsimp only
        exact wpAny_pure (hQ j' s.toks)
    · exact search_away hS hi hst fun j' => hQ j' s.toks

theorem search_old {S : Addr} {led b0 : Bool} {x y : Value} {H : Int} {n : Nat} {Q : SetFound → Shared → Prop} (hx : Quiet w hb x) (hy : Quiet w hb y) (cx : NotOwnCls w hb x) (cy : NotOwnCls w hb y) (heq : EqB w hb y x true) (hu : A.units + 50 < cLine)
    (hle : Le hb s.heap) (hS : s.heap.get? S = some (setO #[(H, y)] 1 (tab1 (bits H % 8) led b0))) (hQ : ∀ tk, Q (.there none) { s with toks := tk }) : wpAny (MM w) A (setSearchFrom S x H true (n + 1) none) Q E s := by
  unfold setSearchFrom
  refine wpAny_bind (wpAny_setState_of hS rfl (tab1_fits ..) ?_)
  dsimp only
  rw [tab1_gave]
  simp only [Bool.false_eq_true, if_false]
  rw [Option.getD_none, start1]
  rw [show (tab1 (bits H % 8) led b0).probe _ H (pr (bits H % 8) (bits H)) = some (.candidate (bits H % 8) 0 (pr ((bits H % 8 * 5 + 1 + bits H / 32) % 8) (bits H / 32))) from by
    unfold SetTable.probe; exact go_cand _ _ _ _ 219 _ _ rfl]
  dsimp only
  refine wpAny_either ?_ ?_
  · have e1 : List.map (fun x => x.2) (Array.filter (fun x => x.1 == H) #[(H, y)]).toList = [y] := by simp
    rw [e1]
    refine wpAny_bind (could_be_seen hx hy cx cy hle ?_)
    simp only [Bool.false_eq_true, if_false]
    show wpAny _ _ (holding [y] (eqBool y x) >>= _) _ _ _
    refine wpAny_bind (wpAny_holding (heq _ _ _ _ hu hle fun tk => ?_))
    refine wpAny_bind (wpAny_setState_of (s := { s with toks := tk }) hS rfl (tab1_fits ..) ?_)
    simp only [Bool.and_self, if_true]
    exact wpAny_pure (hQ tk)
  · show wpAny _ _ (holding [y] (eqBool y x) >>= _) _ _ _
    refine wpAny_bind (wpAny_holding (heq _ _ _ _ hu hle fun tk => ?_))
    refine wpAny_bind (wpAny_setState_of (s := { s with toks := tk }) hS rfl (tab1_fits ..) ?_)
    simp only [Bool.and_self, if_true]
    exact wpAny_pure (hQ tk)
end
end Mine
end

/-! ## F34 -/
section
set_option maxRecDepth 100000
namespace Mine
open SetTable

section
variable {w : World} {A : Around} {E : Value → Shared → Prop} {s : Shared} {hb : Heap}

theorem scan_from {S : Addr} {led b0 b : Bool} {x y : Value} {H1 H : Int} {j : Nat} {Q : ScanMet → Shared → Prop} (heq : EqB w hb y x b) (hbh : b = true → H1 = H) (hu : A.units + 50 < cLine) (hle : Le hb s.heap) (hS : s.heap.get? S = some (setO #[(H1, y)] 1 (tab1 j led b0)))
    (hQ : ∀ tk, Q (if b then .found 0 else .absent) { s with toks := tk }) : wpAny (MM w) A (setScanFrom S x H true [(H1, y)] 0) Q E s := by
  unfold setScanFrom
  by_cases hH : H1 == H
  · rw [if_pos hH]
    refine wpAny_bind (wpAny_setEpoch_of hS rfl (tab1_fits ..) ?_)
    refine wpAny_bind (heq _ _ _ _ hu hle fun tk => ?_)
    cases b with
    | true => 
      simp only [Bool.and_self, if_true]
      exact wpAny_pure (hQ tk)
    | false =>
      simp only [Bool.and_false, Bool.false_eq_true, if_false]
      refine wpAny_bind (wpAny_setEpoch_of (s := { s with toks := tk }) hS rfl (tab1_fits ..) ?_)
      simp only [bne_self_eq_false, Bool.false_eq_true, if_false]
      unfold setScanFrom
      exact wpAny_pure (hQ tk)
  · rw [if_neg hH]
    have : b = false := by
      cases b with
      | false => rfl
      | true => exact absurd (by simpa using hbh rfl) hH
    subst this
    unfold setScanFrom
    exact wpAny_pure (hQ s.toks)

theorem scan_one {S : Addr} {led b0 b : Bool} {x y : Value} {H1 H : Int} {j : Nat} {Q : ScanMet → Shared → Prop} (heq : EqB w hb y x b) (hbh : b = true → H1 = H) (hstr : ∀ a t c u, y = .str a t → x = .str c u → b = (a == c)) (hmix : ∀ c u, x = .str c u → (∀ a t, y ≠ .str a t) → b = false) (hu : A.units + 50 < cLine) (hle : Le hb s.heap)
    (hS : s.heap.get? S = some (setO #[(H1, y)] 1 (tab1 j led b0)))
    (hQ : ∀ tk, Q (if b then .found 0 else .absent) { s with toks := tk }) : wpAny (MM w) A (setScan S x H true #[(H1, y)]) Q E s := by
  have old := scan_from (Q := Q) (E := E) heq hbh hu hle hS hQ
  cases x <;> try exact old
  rename_i c u
  unfold setScan
  dsimp only
  refine wpAny_either ?_ old
  cases y with
  | str a t =>
    have hb' := hstr a t c u rfl rfl
    unfold setScanStrs
    have hfi : (#[(H1, Value.str a t)] : Array (Int × Value)).findIdx? (fun e => e.2.isStr c) = if b then some 0 else none := by
      rw [hb']
      by_cases q : a = c
      · subst q; simp [Value.isStr]
      · simp [Value.isStr, q]
    rw [hfi]
    cases b with
    | false =>
      simp only [Bool.false_eq_true, if_false] at hQ ⊢
      exact wpAny_pure (hQ s.toks)
    | true =>
      simp only [if_true] at hQ ⊢
      show wpAny _ _ (setEpoch S >>= _) _ _ _
      refine wpAny_bind (wpAny_setEpoch_of hS rfl (tab1_fits ..) ?_)
      refine wpAny_bind (heq _ _ _ _ hu hle fun tk => ?_)
      simp only [Bool.and_self, if_true]
      exact wpAny_pure (hQ tk)
  | _ =>
    have hne : ∀ z : Value, (∀ a t, z ≠ .str a t) → z.isStr c = false := fun z hz => by
      cases z <;> first | rfl | exact absurd rfl (hz _ _)
    unfold setScanStrs
    have hfi : ∀ z : Value, (∀ a t, z ≠ .str a t) → (#[(H1, z)] : Array (Int × Value)).findIdx? (fun e => e.2.isStr c) = none := fun z hz => by
      simp [hne z hz]
    rw [hfi _ (fun a t h => by cases h)]
    cases b with
    | false =>
      simp only [Bool.false_eq_true, if_false] at hQ
      exact wpAny_pure (hQ s.toks)
    | true => exact absurd (hmix c u rfl fun a t h => by cases h) (by decide)

/-- what is known of the second of two -/
structure Two (w : World) (hb : Heap) (y x : Value) (H1 H : Int) (b : Bool) : Prop where
  cmp : EqB w hb y x b
  hash : b = true → H1 = H
  str : ∀ a t c u, y = .str a t → x = .str c u → b = (a == c)
  mix : ∀ c u, x = .str c u → (∀ a t, y ≠ .str a t) → b = false
  way : (x.scannable && y.scannable) = true ∨ Quiet w hb x ∧ Quiet w hb y ∧ NotOwnCls w hb x ∧ NotOwnCls w hb y ∧ SameSelf w y

def setP (S : Addr) (n : Nat) (h : Heap) : Prop := ∃ es ep t, h.get? S = some (setO es ep t) ∧ es.size = n ∧ t.fits es.size = true

theorem add_second {S : Addr} {led b0 b : Bool} {x y : Value} {H1 H : Int} {Q : Bool → Shared → Prop} (hS : s.heap.get? S = some (setO #[(H1, y)] 1 (tab1 (bits H1 % 8) led b0))) (K : Key w hb x H) (T : Two w hb y x H1 H b) (hle : Le hb s.heap) (hSn : hb.get? S = none) (hu : A.units + 50 < cLine)
    (hQ : ∀ r tk h', setP S (if b then 1 else 2) h' → Heap.SameBut S s.heap h' → Q r { s with heap := h', toks := tk }) : wpAny (MM w) A (setAdd S x) Q E s := by
  unfold setAdd
  refine wpAny_holding (wpAny_bind (K.hash _ _ _ _ hu hle fun tk => ?_))
  unfold setAddHashed setAddHashedIn
  refine wpAny_holding (wpAny_bind (wpAny_setState_of (s := { s with toks := tk }) hS rfl (tab1_fits ..) ?_))
  dsimp only
  have hbs : byScan x #[(H1, y)] = (x.scannable && y.scannable) := by simp [byScan, scanBound]
  rw [hbs]
  cases hx : (x.scannable && y.scannable) with
  | true =>
    have hxs : x.scannable = true := by simp only [Bool.and_eq_true] at hx; exact hx.1
    simp only [if_true]
    unfold setAddByScan
    refine wpAny_bind (wpAny_bind (wpAny_rule (wpAny_bind (scan_one (s := { s with toks := tk }) T.cmp T.hash T.str T.mix hu hle hS fun tk' => ?_))))
    cases b with
    | true =>
      simp only [if_true]
      exact wpAny_pure (wpAny_pure (hQ false tk' s.heap ⟨_, _, _, hS, rfl, tab1_fits ..⟩ (.refl ..)))
    | false =>
      simp only [Bool.false_eq_true, if_false]
      obtain ⟨es, t, he, h1, h2, h3, h4⟩ := layNew_one (bits H1 % 8) led b0 (H1, y) H x
      rw [he]
      dsimp only
      refine wpAny_bind (wpAny_pure ?_)
      rw [hashByValue_scannable 8 hxs]
      have fin : ∀ t' : SetTable, t'.mask = 7 → t'.place.size = 2 → t'.dummies = #[] → ∀ (P : Unit → Shared → Prop) E', (∀ h', setP S 2 h' → Heap.SameBut S s.heap h' → P () { s with heap := h', toks := tk' }) →
          wpAny (MM w) A (storeSet S es t') P E' { s with toks := tk' } := fun t' g1 g2 g3 P E' hP =>
        wpAny_storeSet_of (s := { s with toks := tk' }) hS rfl (hP _ ⟨_, _, _, setO_put hS, h1, by rw [h1]; exact fits2 g1 g2 g3⟩ (Heap.SameBut.update ..)) (by rw [h1, sizeLine_eq]; omega)
      have fin2 : ∀ bv : Bool, ∃ t', (if bv = true then t else { t with plain := false }) = t' ∧ t'.mask = 7 ∧ t'.place.size = 2 ∧ t'.dummies = #[] := fun bv => by
        cases bv
        · exact ⟨_, rfl, h2, h3, h4⟩
        · exact ⟨_, rfl, h2, h3, h4⟩
      refine wpAny_either (wpAny_bind (wpAny_pure ?_)) (wpAny_bind (wpAny_pure ?_))
      · obtain ⟨t', e, g1, g2, g3⟩ := fin2 (plainKind x)
        rw [e]
        refine wpAny_bind (fin t' g1 g2 g3 _ _ fun h' hp hs => ?_)
        rw [not_full2 g1 g2 g3]
        simp only [Bool.not_false, Bool.and_false, Bool.false_eq_true, if_false]
        exact wpAny_pure (wpAny_pure (hQ true tk' h' hp hs))
      · obtain ⟨t', e, g1, g2, g3⟩ := fin2 true
        rw [e]
        refine wpAny_bind (fin t' g1 g2 g3 _ _ fun h' hp hs => ?_)
        rw [not_full2 g1 g2 g3]
        simp only [Bool.not_false, Bool.and_false, Bool.false_eq_true, if_false]
        exact wpAny_pure (wpAny_pure (hQ true tk' h' hp hs))
  | false =>
    simp only [Bool.false_eq_true, if_false]
    rcases T.way with hw | ⟨q1, q2, q3, q4, q5⟩
    · rw [hx] at hw; cases hw
    cases b with
    | true =>
      have := T.hash rfl
      subst this
      refine wpAny_bind ?_
      unfold setSearch
      refine search_old (n := 99999) q1 q2 q3 q4 T.cmp hu hle hS fun tk' => ?_
      dsimp only
      exact wpAny_pure (hQ false tk' s.heap ⟨_, _, _, hS, rfl, tab1_fits ..⟩ (.refl ..))
    | false =>
      refine wpAny_bind ?_
      unfold setSearch
      refine search_new q1 q2 q3 q4 q5 T.cmp hu 13 100000 (bits H % 8) (bits H) none { s with toks := tk } (bits_lt H) (by decide) (by decide) hle hS (by rw [Option.getD_none, start1]) fun j' tk' => ?_
      dsimp only
      refine wpAny_bind (wpAny_setState_of (s := { s with toks := tk' }) hS rfl (tab1_fits ..) ?_)
      dsimp only
      obtain ⟨t, p, hp, h1, h2, h3, h4, h5⟩ := put1 (bits H1 % 8) j' led b0
      rw [hp]
      dsimp only
      have hsz : (insertAt #[(H1, y)] p (H, x)).size = 2 := insertAt_size _ _ _ h4
      have fin : ∀ t' : SetTable, t'.mask = 7 → t'.place.size = 2 → t'.dummies = #[] → ∀ (P : Unit → Shared → Prop) E', (∀ h', setP S 2 h' → Heap.SameBut S s.heap h' → P () { s with heap := h', toks := tk' }) →
          wpAny (MM w) A (storeSet S (insertAt #[(H1, y)] p (H, x)) t') P E' { s with toks := tk' } := fun t' g1 g2 g3 P E' hP =>
        wpAny_storeSet_of (s := { s with toks := tk' }) hS rfl (hP _ ⟨_, _, _, setO_put hS, hsz, by rw [hsz]; exact fits2 g1 g2 g3⟩ (Heap.SameBut.update ..)) (by rw [hsz, sizeLine_eq]; omega)
      have fin2 : ∀ bv : Bool, ∃ t', (if bv = true then t else { t with plain := false }) = t' ∧ t'.mask = 7 ∧ t'.place.size = 2 ∧ t'.dummies = #[] := fun bv => by
        cases bv
        · exact ⟨_, rfl, h2, h1, h3⟩
        · exact ⟨_, rfl, h2, h1, h3⟩
      refine wpAny_either (wpAny_bind (K.byVal _ _ _ _ hle fun bv => ?_)) (wpAny_bind (wpAny_pure ?_))
      · obtain ⟨t', e, g1, g2, g3⟩ := fin2 bv
        rw [e]
        refine wpAny_bind (fin t' g1 g2 g3 _ _ fun h' hp hs => ?_)
        rw [not_full2 g1 g2 g3]
        simp only [Bool.not_false, Bool.and_false, Bool.false_eq_true, if_false]
        exact wpAny_pure (hQ true tk' h' hp hs)
      · obtain ⟨t', e, g1, g2, g3⟩ := fin2 true
        rw [e]
        refine wpAny_bind (fin t' g1 g2 g3 _ _ fun h' hp hs => ?_)
        rw [not_full2 g1 g2 g3]
        simp only [Bool.not_false, Bool.and_false, Bool.false_eq_true, if_false]
        exact wpAny_pure (hQ true tk' h' hp hs)
end
end Mine
end

/-! ## F35 -/
section
set_option maxRecDepth 100000
namespace Mine
open SetTable

section
variable {w : World} {A : Around} {E : Value → Shared → Prop} {s : Shared} {hb : Heap}

theorem call_set_two {t : Addr} {y x : Value} {H1 H : Int} {b : Bool} {Q : Value → Shared → Prop} (hA : A.handled = none) (hu : A.units + 70 < cLine) (ht : s.heap.IsTuple t #[y, x]) (Ky : Key w hb y H1) (Kx : Key w hb x H) (T : Two w hb y x H1 H b) (hle : Le hb s.heap)
    (hQ : ∀ S h' tk, s.heap.get? S = none → setP S (if b then 1 else 2) h' → Le s.heap h' → Q (.ref S) { s with heap := h', toks := tk }) : wpAny (MM w) A (call (.type "set") [.ref t]) Q E s := by
  obtain ⟨ot, hot, hct, nt, hdt⟩ := id ht
  have hSn : hb.get? s.heap.objs.size = none := by
    cases e : hb.get? s.heap.objs.size with
    | none => rfl
    | some o => have := hle _ _ e; rw [fresh_size] at this; cases this
  refine call_set_tuple ht fun led => ?_
  have hIS : (s.heap.push (setObj led)).objs.size = s.heap.objs.size + 1 := Heap.size_push ..
  have gI : ((s.heap.push (setObj led)).push (tupIter t)).IsTupleIter (s.heap.push (setObj led)).objs.size t 0 := ⟨_, Heap.get?_push_size _ rfl, rfl, rfl⟩
  have gS : ((s.heap.push (setObj led)).push (tupIter t)).get? s.heap.objs.size = some (setO #[] 0 (.fresh 0 0 led)) := Heap.get?_push_of_some _ (Heap.get?_push_size _ rfl)
  have gT : ((s.heap.push (setObj led)).push (tupIter t)).IsTuple t #[y, x] := ⟨ot, Heap.get?_push_of_some _ (Heap.get?_push_of_some _ hot), hct, nt, hdt⟩
  have gL : Le s.heap ((s.heap.push (setObj led)).push (tupIter t)) := fun b o e => Heap.get?_push_of_some _ (Heap.get?_push_of_some _ e)
  have hIn : s.heap.get? (s.heap.push (setObj led)).objs.size = none := by rw [hIS]; exact fresh_ge (Nat.le_succ _)
  have hSI : s.heap.objs.size ≠ (s.heap.push (setObj led)).objs.size := by rw [hIS]; exact Nat.ne_of_lt (Nat.lt_succ_self _)
  generalize (s.heap.push (setObj led)).objs.size = I at *
  generalize (s.heap.push (setObj led)).push (tupIter t) = h₀ at *
  have hS0 := fresh_size s.heap
  generalize s.heap.objs.size = S at *
  have htI : t ≠ I := by rintro rfl; rw [hot] at hIn; cases hIn
  have htS : t ≠ S := by rintro rfl; rw [hot] at hS0; cases hS0
  have up : ∀ (D : Addr) (h h' : Heap), s.heap.get? D = none → Heap.SameBut D h h' → Le s.heap h → Le s.heap h' := fun D h h' hn hs hl b o e => hs.extBut b o (fun q => by rw [q, hn] at e; cases e) (hl b o e)
  have hu' : A.in1.in1.in1.units + 50 < cLine := by show A.units + 1 + 1 + 1 + 50 < cLine; omega
  -- the first
  refine codeAny_builtin PyProof.Rows.F.entry_set_update_loop ?_
  rw [Around.under_plainId PyProof.Rows.F.plain_set_update_loop _]
  show wpAny _ _ (pyNext (.ref I) >>= _) _ _ _
  refine wpAny_bind (wpAny_pyNext_tuple_item gI gT (x := y) rfl fun h₁ gI₁ k₁ => ?_)
  show wpAny _ _ (holding [y] (setAdd S y) >>= _) _ _ _
  refine wpAny_bind (wpAny_holding ?_)
  have gL₁ := up I _ _ hIn k₁ gL
  refine add_first (s := { s with heap := h₁ }) (k₁.extBut _ _ hSI gS) Ky (fun b o e => gL₁ b o (hle b o e)) hSn hu' fun bp tk h₂ gS₂ k₂ => ?_
  have gL₂ := up S _ _ hS0 k₂ gL₁
  have gI₂ := gI₁.extBut k₂.extBut (Ne.symm hSI)
  refine wpAny_pure ⟨plainId_quiet PyProof.Rows.F.plain_set_update_loop _, ?_⟩
  -- the second
  refine codeAny_builtin PyProof.Rows.F.entry_set_update_loop ?_
  rw [Around.under_plainId PyProof.Rows.F.plain_set_update_loop _]
  show wpAny _ _ (pyNext (.ref I) >>= _) _ _ _
  have gT₂ : h₂.IsTuple t #[y, x] := ⟨ot, gL₂ _ _ hot, hct, nt, hdt⟩
  refine wpAny_bind (wpAny_pyNext_tuple_item (s := { s with heap := h₂, toks := tk }) gI₂ gT₂ (x := x) rfl fun h₃ gI₃ k₃ => ?_)
  show wpAny _ _ (holding [x] (setAdd S x) >>= _) _ _ _
  refine wpAny_bind (wpAny_holding ?_)
  have gL₃ := up I _ _ hIn k₃ gL₂
  refine add_second (s := { s with heap := h₃, toks := tk }) (k₃.extBut _ _ hSI gS₂) Kx T (fun b o e => gL₃ b o (hle b o e)) hSn hu' fun r tk' h₄ gS₄ k₄ => ?_
  have gL₄ := up S _ _ hS0 k₄ gL₃
  have gI₄ := gI₃.extBut k₄.extBut (Ne.symm hSI)
  refine wpAny_pure ⟨plainId_quiet PyProof.Rows.F.plain_set_update_loop _, ?_⟩
  -- the end
  refine codeAny_builtin PyProof.Rows.F.entry_set_update_loop ?_
  rw [Around.under_plainId PyProof.Rows.F.plain_set_update_loop _]
  show wpAny _ _ (pyNext (.ref I) >>= _) _ _ _
  have gT₄ : h₄.IsTuple t #[y, x] := ⟨ot, gL₄ _ _ hot, hct, nt, hdt⟩
  refine wpAny_bind (wpAny_pyNext_tuple_end (s := { s with heap := h₄, toks := tk' }) (by exact hA) gI₄ gT₄ rfl fun h₅ k₅ => ?_)
  show wpAny _ _ (ret Value.none) _ _ _
  refine wpAny_pure ⟨rfl, hQ S h₅ tk' hS0 ?_ fun b o e => k₅ b o (fun q => by rw [q, hIn] at e; cases e) (gL₄ b o e)⟩
  obtain ⟨es, ep, tt, g1, g2, g3⟩ := gS₄
  exact ⟨es, ep, tt, k₅ _ _ hSI g1, g2, g3⟩

/-- a type error just made -/
structure Terr (h h' : Heap) (e : Addr) : Prop where
  le : Le h h'
  new : h.get? e = none
  there : ∃ o vs, h'.get? e = some o ∧ o.cls = .type "TypeError" ∧ o.data = .fields vs ∧ vs[1]? = some .none ∧ vs[2]? = some .none
theorem Terr.from {h₀ h h' : Heap} {e : Addr} (x : Terr h h' e) (k : Le h₀ h) : Terr h₀ h' e := by
  refine ⟨fun b o q => x.le b o (k b o q), ?_, x.there⟩
  cases q : h₀.get? e with
  | none => rfl
  | some o => have := k _ _ q; rw [x.new] at this; cases this

/-- what cannot be hashed -/
def NoHash (w : World) (hb : Heap) (v : Value) : Prop := ∀ (A : Around) (s : Shared) (E : Value → Shared → Prop) (Q : Int → Shared → Prop), A.handled = none → A.units + 50 < cLine → Le hb s.heap →
  (∀ h' e tk, Terr s.heap h' e → E (.ref e) { s with heap := h', toks := tk }) → wpAny (MM w) A (pyHash v) Q E s

theorem call_set_not {t : Addr} {y x : Value} {Q : Value → Shared → Prop} (hA : A.handled = none) (hu : A.units + 70 < cLine) (ht : s.heap.IsTuple t #[y, x]) (Ny : NoHash w hb y) (hle : Le hb s.heap)
    (hE : ∀ h' e tk, Terr s.heap h' e → E (.ref e) { s with heap := h', toks := tk }) : wpAny (MM w) A (call (.type "set") [.ref t]) Q E s := by
  obtain ⟨ot, hot, hct, nt, hdt⟩ := id ht
  refine call_set_tuple ht fun led => ?_
  have hIS : (s.heap.push (setObj led)).objs.size = s.heap.objs.size + 1 := Heap.size_push ..
  have gI : ((s.heap.push (setObj led)).push (tupIter t)).IsTupleIter (s.heap.push (setObj led)).objs.size t 0 := ⟨_, Heap.get?_push_size _ rfl, rfl, rfl⟩
  have gT : ((s.heap.push (setObj led)).push (tupIter t)).IsTuple t #[y, x] := ⟨ot, Heap.get?_push_of_some _ (Heap.get?_push_of_some _ hot), hct, nt, hdt⟩
  have gL : Le s.heap ((s.heap.push (setObj led)).push (tupIter t)) := fun b o e => Heap.get?_push_of_some _ (Heap.get?_push_of_some _ e)
  have hIn : s.heap.get? (s.heap.push (setObj led)).objs.size = none := by rw [hIS]; exact fresh_ge (Nat.le_succ _)
  have hz : ∀ e, ((s.heap.push (setObj led)).push (tupIter t)).get? e = none → s.heap.get? e = none := fun e q => by
    cases h : s.heap.get? e with
    | none => rfl
    | some o => rw [gL _ _ h] at q; cases q
  generalize (s.heap.push (setObj led)).objs.size = I at *
  generalize (s.heap.push (setObj led)).push (tupIter t) = h₀ at *
  have hu' : A.in1.in1.in1.units + 50 < cLine := by show A.units + 1 + 1 + 1 + 50 < cLine; omega
  refine codeAny_builtin PyProof.Rows.F.entry_set_update_loop ?_
  rw [Around.under_plainId PyProof.Rows.F.plain_set_update_loop _]
  show wpAny _ _ (pyNext (.ref I) >>= _) _ _ _
  refine wpAny_bind (wpAny_pyNext_tuple_item gI gT (x := y) rfl fun h₁ gI₁ k₁ => ?_)
  show wpAny _ _ (holding [y] (setAdd s.heap.objs.size y) >>= _) _ _ _
  refine wpAny_bind (wpAny_holding ?_)
  have gL₁ : Le s.heap h₁ := fun b o e => k₁.extBut b o (fun q => by rw [q, hIn] at e; cases e) (gL b o e)
  unfold setAdd
  exact wpAny_holding (wpAny_bind (Ny _ { s with heap := h₁ } _ _ (by exact hA) hu' (fun b o e => gL₁ b o (hle b o e)) fun h' e tk hx => hE h' e tk (hx.from gL₁)))
end
end Mine
end

/-! ## F36 -/
section
set_option maxRecDepth 100000
namespace Mine

/-! ### the elements that are compared -/
inductive Elt : PyData → Prop
  | none : Elt .none
  | str (x : Str) (h : PyData.strOk x = true) : Elt (.str x)
  | tup (xs : List Str) (h : ∀ x ∈ xs, PyData.strOk x = true) : Elt (.tuple (xs.map .str))
theorem strs_lay : ∀ xs : List Str, (∀ x ∈ xs, PyData.strOk x = true) → PyData.canLayAll0 (xs.map .str) = true ∧ PyData.depthAll (xs.map .str) = 0
  | [], _ => ⟨rfl, rfl⟩
  | x :: xs, h => by
    obtain ⟨a, b⟩ := strs_lay xs fun y hy => h y (List.mem_cons_of_mem _ hy)
    simp [PyData.canLayAll0, PyData.canLay0, PyData.depthAll, PyData.depth, a, b, h x (List.mem_cons_self ..)]
theorem Elt.lay {d : PyData} (h : Elt d) : d.canLay0 = true ∧ d.depth ≤ 1 := by
  cases h with
  | none => exact ⟨rfl, by simp [PyData.depth]⟩
  | str x h => exact ⟨by simpa [PyData.canLay0] using h, by simp [PyData.depth]⟩
  | tup xs h =>
    obtain ⟨a, b⟩ := strs_lay xs h
    exact ⟨by simpa [PyData.canLay0] using a, by simp [PyData.depth, b]⟩
theorem Elt.shaped {d : PyData} (h : Elt d) : PySem.SeqAt.shaped d = true := by
  obtain ⟨a, b⟩ := h.lay
  simp only [PySem.SeqAt.shaped, a, Bool.true_and, decide_eq_true_eq]; omega

theorem eqvAll_strs : ∀ xs ys : List Str, PyData.eqvAll (xs.map .str) (ys.map .str) = decide (xs = ys)
  | [], [] => by simp [PyData.eqvAll]
  | x :: xs, y :: ys => by
    rw [List.map_cons, List.map_cons, PyData.eqvAll, eqvAll_strs xs ys, PyData.eqv]
    by_cases h : x = y <;> simp [h]
  | [], _ :: _ => by simp [PyData.eqvAll]
  | _ :: _, [] => by simp [PyData.eqvAll]

section
variable {w : World} {A : Around} {E : Value → Shared → Prop} {s : Shared} {hb : Heap}

theorem pyHash_none {Q : Int → Shared → Prop} (hQ : ∀ tk, Q 0xFCA86420 { s with toks := tk }) : wpAny (MM w) A (pyHash .none) Q E s := by
  have hT : s.TypeIs .none "NoneType" := rfl
  unfold pyHash pyHashByItsType
  have hv : [Value.none].any Value.onHeap = false := rfl
  refine wpAny_bind ?_
  rw [cRoomFor, if_neg (by rw [hv]; exact Bool.false_ne_true)]; refine wpAny_pure ?_
  refine wpAny_bind (wpAny_specialOf hT PySem.F.slot_NoneType_hash.lookup ?_)
  show wpAny _ _ (if (some (Value.builtin "NoneType.__hash__") == some Value.none) = true then _ else _) Q E s
  rw [if_neg (by rw [beq_builtin_none]; exact Bool.false_ne_true)]
  refine wpAny_bind (wpAny_specialOf hT PySem.F.slot_NoneType_hash.lookup ?_)
  show wpAny _ _ (callSpecialIfBoundUnlessNone? .none "__hash__" _ >>= _) Q E s
  refine wpAny_bind (wpAny_callSpecialIfBoundUnlessNone?_slot hT PySem.F.slot_NoneType_hash
    (wpAny_call_entry PySem.F.slot_NoneType_hash hT PySem.F.entry_NoneType_hash
      (show wpAny _ _ (do ret (← mkInt 0xFCA86420)) _ _ s from wpAny_ret_mkInt ?_) (PySem.F.args_NoneType_hash_1 _)))
  show wpAny _ _ (if (decide (-(2 : Int) ^ 63 ≤ 0xFCA86420) && decide ((0xFCA86420 : Int) < 2 ^ 63)) = true then _ else _) Q E _
  rw [if_pos (by decide)]
  exact wpAny_pure (hQ _)

theorem items_are {hb : Heap} : ∀ {xs : List Str} {vs : List Value}, VL hb vs ((xs.map PyData.str).map .py) → ItemsAre (PySem.strKind PW w) xs vs
  | [], _, .nil => .nil
  | x :: xs, _, .cons a b => by
    obtain ⟨t, rfl⟩ := a.str_inv
    exact .cons (show Value.isStrOf x (.str x t) = true by simp [Value.isStrOf]) (items_are b)
theorem tup_key {hb : Heap} {v : Value} {xs : List Str} (hv : V hb v (.py (.tuple (xs.map .str)))) {h : Heap} (hle : Le hb h) : ∃ a, v = .ref a ∧ IsTupleKey (PySem.strKind PW w) h xs a := by
  obtain ⟨a, o, vs, n, rfl, g1, g2, g3, g4⟩ := hv.tuple_inv
  exact ⟨a, rfl, o, vs, n, hle _ _ g1, g2, g3, items_are g4⟩

noncomputable def hashE (w : World) : PyData → Int
  | .none => 0xFCA86420
  | .str x => hashStr w x
  | .tuple xs => tupleKeyHash (PySem.strKind PW w) (xs.map fun | .str x => x | _ => Str.empty)
  | _ => 0
theorem hashE_tup (xs : List Str) : hashE w (.tuple (xs.map .str)) = tupleKeyHash (PySem.strKind PW w) xs := by
  unfold hashE
  dsimp only
  rw [List.map_map]
  congr 1
  exact List.map_id'' (fun _ => rfl) _

/-- hashByValue of a tuple: either -/
theorem hashByVal_any {v : Value} {d : PyData} (hd : Elt d) (hv : V hb v (.py d)) {A : Around} {s : Shared} {Q : Bool → Shared → Prop} (hle : Le hb s.heap) (hQ : ∀ b, Q b s) : wpAny (MM w) A (hashByValue 8 v) Q E s := by
  cases hd with
  | none => obtain rfl := hv.none_inv; exact wpAny_of_eq (hashByValue_scannable 8 rfl) (hQ _)
  | str x _ => obtain ⟨t, rfl⟩ := hv.str_inv; exact wpAny_of_eq (hashByValue_scannable 8 rfl) (hQ _)
  | tup xs _ =>
    obtain ⟨a, o, vs, n, rfl, g1, g2, g3, g4⟩ := hv.tuple_inv
    have ho := hle _ _ g1
    have hT : s.TypeIs (.ref a) "tuple" := ⟨o, ho, g2⟩
    unfold hashByValue
    refine wpAny_bind (wpAny_specialOf hT PySem.F.slot_tuple_hash.lookup ?_)
    dsimp only
    refine wpAny_bind (wpAny_seqItems ho g3 ?_)
    rw [Option.getD_some, ← Array.forIn_toList]
    have hstr : ∀ u ∈ vs.toList, ∃ x t, u = Value.str x t := by
      intro u hu
      obtain ⟨i, hi⟩ := List.mem_iff_getElem?.mp hu
      have hl := g4.length
      simp only [List.length_map] at hl
      have hilt : i < xs.length := by rw [← hl]; exact (List.getElem?_eq_some_iff.mp hi).1
      obtain ⟨u', h1, h2⟩ := g4.get (d := .py (.str xs[i])) (i := i) (by simp [hilt])
      rw [hi] at h1; cases h1
      obtain ⟨t, rfl⟩ := h2.str_inv
      exact ⟨_, t, rfl⟩
    cases hvs : vs.toList with
    | nil => 
      rw [List.forIn_nil]
      exact wpAny_bind (wpAny_pure (wpAny_pure (hQ _)))
    | cons u us =>
      obtain ⟨x, t, rfl⟩ := hstr u (by rw [hvs]; exact List.mem_cons_self ..)
      rw [List.forIn_cons]
      rw [hashByValue_scannable 7 (x := .str x t) rfl]
      refine wpAny_bind (wpAny_bind (wpAny_bind (wpAny_pure ?_)))
      dsimp only [plainKind]
      simp only [Bool.not_false, if_true]
      exact wpAny_pure (wpAny_pure (wpAny_pure (hQ _)))

theorem Key.elt {v : Value} {d : PyData} (hd : Elt d) (hv : V hb v (.py d)) : Key w hb v (hashE w d) where
  hash := fun A s E Q hu hle hQ => by
    cases hd with
    | none => obtain rfl := hv.none_inv; exact pyHash_none hQ
    | str x _ => obtain ⟨t, rfl⟩ := hv.str_inv; exact wpAny_pyHash_str (hQ _)
    | tup xs _ =>
      obtain ⟨a, rfl, hk⟩ := tup_key (w := w) hv hle
      rw [hashE_tup] at hQ
      exact wpAny_pyHash_tuple (by omega) hk (hQ _)
  byVal := fun A s E Q hle hQ => hashByVal_any hd hv hle hQ

theorem EqB.elt {y x : Value} {dy dx : PyData} (hy : Elt dy) (hx : Elt dx) (vy : V hb y (.py dy)) (vx : V hb x (.py dx)) : EqB w hb y x (PyData.eqv dy dx) := fun A s E Q hu hle hQ => by
  obtain ⟨as, ry⟩ := vy; obtain ⟨bs, rx⟩ := vx
  refine PySem.SeqAt.eqBoolOverData PW w A E s y x dy dx as bs Q (PyProof.Rows.Reads.keeps hle ry) (PyProof.Rows.Reads.keeps hle rx) hy.lay.1 hx.lay.1 ?_ (hQ s.toks)
  have h1 := hy.lay.2
  have : min dy.depth dx.depth ≤ dy.depth := Nat.min_le_left _ _
  omega
theorem Quiet.tup {v : Value} {xs : List Str} (hv : V hb v (.py (.tuple (xs.map .str)))) : Quiet w hb v := fun A s E Q hle hQ => by
  obtain ⟨a, rfl, hk⟩ := tup_key (w := w) hv hle
  exact wpAny_eqIsQuiet_tuple hk hQ
theorem NotOwnCls.tup {v : Value} {xs : List Str} (hv : V hb v (.py (.tuple (xs.map .str)))) : NotOwnCls w hb v := fun A s E Q hle hQ => by
  obtain ⟨a, o, vs, n, rfl, g1, g2, g3, g4⟩ := hv.tuple_inv
  have ho := hle _ _ g1
  have hT : s.TypeIs (.ref a) "tuple" := ⟨o, ho, g2⟩
  unfold ofAClassStatement
  refine wpAny_bind (wpAny_typeOf hT ?_)
  dsimp only
  rw [if_pos (by decide)]
  refine wpAny_bind (wpAny_pure ?_)
  simp only [Bool.not_true, Bool.false_eq_true, if_false]
  refine wpAny_bind (wpAny_seqItems ho g3 ?_)
  dsimp only
  rw [← Array.forIn_toList]
  have hstr : ∀ (us : List Value) (ys : List Str), VL hb us ((ys.map PyData.str).map .py) → ∀ u ∈ us, ∃ x t, u = Value.str x t := by
    intro us ys h
    induction ys generalizing us with
    | nil => cases h; intro u hu; cases hu
    | cons y ys ih =>
      cases h with
      | cons p q =>
        intro u hu
        rcases List.mem_cons.mp hu with rfl | hu
        · obtain ⟨t, rfl⟩ := p.str_inv; exact ⟨_, t, rfl⟩
        · exact ih _ q u hu
  have hall := hstr _ _ g4
  refine wpAny_bind ?_
  refine wpAny_forIn_list _ (fun rest r s' => r.1 = none ∧ s' = s ∧ ∀ u ∈ rest, ∃ x t, u = Value.str x t) _ ?_ ?_ _ _ ⟨rfl, rfl, hall⟩
  · rintro u rest r s' ⟨hr, rfl, hall⟩
    obtain ⟨x, t, rfl⟩ := hall u (List.mem_cons_self ..)
    unfold ofAClassStatement
    refine wpAny_bind (wpAny_pure ?_)
    simp only [Bool.false_eq_true, if_false]
    exact wpAny_pure ⟨rfl, rfl, fun u hu => hall u (List.mem_cons_of_mem _ hu)⟩
  · rintro ⟨r1, r2⟩ s' ⟨hr, rfl, _⟩
    simp only at hr
    subst hr
    exact wpAny_pure hQ
theorem Quiet.none : Quiet w hb .none := fun A s E Q hle hQ => by
  refine wpAny_of_eq (eqIsQuiet_byValue 8 rfl) hQ
theorem NotOwnCls.none : NotOwnCls w hb .none := fun A s E Q hle hQ => by
  unfold ofAClassStatement; exact wpAny_pure hQ
theorem SameSelf.ref {a : Addr} : SameSelf w (.ref a) := fun A s E Q hQ => wpAny_isSame_ref_self hQ
theorem SameSelf.none : SameSelf w .none := fun A s E Q hQ => by
  refine wpAny_isSame_plain rfl ?_
  exact hQ

/-- pairs that are compared: of one kind, or one of them nothing -/
def Mate : PyData → PyData → Prop
  | .str _, .tuple _ => False
  | .tuple _, .str _ => False
  | _, _ => True

theorem Two.elt {y x : Value} {dy dx : PyData} (hy : Elt dy) (hx : Elt dx) (hm : Mate dy dx) (vy : V hb y (.py dy)) (vx : V hb x (.py dx)) : Two w hb y x (hashE w dy) (hashE w dx) (PyData.eqv dy dx) where
  cmp := .elt hy hx vy vx
  hash := fun h => by
    cases hy <;> cases hx <;> first | rfl | (exfalso; revert h; simp [PyData.eqv]; done) | skip
    · rw [PyData.eqv] at h
      rw [beq_iff_eq.mp h]
    · rw [PyData.eqv, eqvAll_strs, decide_eq_true_eq] at h
      rw [h]
  str := fun a t c u e1 e2 => by
    subst e1 e2
    have h1 : dy = .str a := by
      cases hy with
      | none => cases vy.none_inv
      | str z _ => obtain ⟨_, e⟩ := vy.str_inv; cases e; rfl
      | tup zs _ => obtain ⟨_, _, _, _, e, _⟩ := vy.tuple_inv; cases e
    have h2 : dx = .str c := by
      cases hx with
      | none => cases vx.none_inv
      | str z _ => obtain ⟨_, e⟩ := vx.str_inv; cases e; rfl
      | tup zs _ => obtain ⟨_, _, _, _, e, _⟩ := vx.tuple_inv; cases e
    subst h1 h2
    rw [PyData.eqv]
  mix := fun c u e hne => by
    subst e
    have h2 : dx = .str c := by
      cases hx with
      | none => cases vx.none_inv
      | str z _ => obtain ⟨_, e⟩ := vx.str_inv; cases e; rfl
      | tup zs _ => obtain ⟨_, _, _, _, e, _⟩ := vx.tuple_inv; cases e
    subst h2
    cases hy with
    | none => rw [PyData.eqv]
    | str z _ => obtain ⟨t, e⟩ := vy.str_inv; exact absurd e (hne _ _)
    | tup zs _ => rw [PyData.eqv]
  way := by
    cases hy with
    | none =>
      obtain rfl := vy.none_inv
      cases hx with
      | none => obtain rfl := vx.none_inv; exact .inl rfl
      | str z _ => obtain ⟨_, rfl⟩ := vx.str_inv; exact .inl rfl
      | tup zs _ => exact .inr ⟨.tup vx, .none, .tup vx, .none, .none⟩
    | str z _ =>
      obtain ⟨_, rfl⟩ := vy.str_inv
      cases hx with
      | none => obtain rfl := vx.none_inv; exact .inl rfl
      | str z _ => obtain ⟨_, rfl⟩ := vx.str_inv; exact .inl rfl
      | tup zs _ => exact hm.elim
    | tup zs _ =>
      obtain ⟨a, _, _, _, rfl, _⟩ := id vy.tuple_inv
      cases hx with
      | none => obtain rfl := vx.none_inv; exact .inr ⟨.none, .tup vy, .none, .tup vy, .ref⟩
      | str z _ => exact hm.elim
      | tup zs _ => exact .inr ⟨.tup vx, .tup vy, .tup vx, .tup vy, .ref⟩
end
end Mine
end

/-! ## F37 -/
section
set_option maxRecDepth 100000
namespace Mine

section
variable {w : World} {A : Around} {E : Value → Shared → Prop} {s : Shared} {hb : Heap}

theorem raise_type {α : Type} {msg : String} {Q : α → Shared → Prop} (hA : A.handled = none) (hm : (msg : Str).length ≤ sizeLine) (hE : ∀ h' e tk, Terr s.heap h' e → E (.ref e) { s with heap := h', toks := tk }) :
    wpAny (MM w) A (raiseErrorMade "TypeError" msg : Sem α) Q E s := by
  unfold raiseErrorMade
  refine wpAny_bind (wpAny_mkStr (wpAny_bind ?_) hm)
  refine wpAny_newExc_plain plainExc_TypeError fun h' e hx => wpAny_raiseNew_none hA ?_
  obtain ⟨k1, k2, t, k3, _⟩ := hx
  exact hE _ _ _ ⟨k1, k2, _, _, k3, rfl, rfl, rfl, rfl⟩

theorem lookup_list_hash : typeLookup (.type "list") "__hash__" = pure (some .none) := by rw [typeLookup_type, builtinLookup_eq_fast]; kernel_rfl
theorem NoHash.list {v : Value} {xs : List PyData} (hv : V hb v (.py (.list xs))) : NoHash w hb v := fun A s E Q hA hu hle hE => by
  obtain ⟨a, o, vs, n, rfl, g1, g2, g3, g4⟩ := hv.list_inv
  have hT : s.TypeIs (.ref a) "list" := ⟨o, hle _ _ g1, g2⟩
  unfold pyHash pyHashByItsType
  refine wpAny_bind (wpAny_cRoomFor_or (.inr (by omega)) ?_)
  refine wpAny_bind (wpAny_specialOf hT lookup_list_hash ?_)
  show wpAny _ _ (if (some Value.none == some Value.none) = true then _ else _) _ _ _
  rw [if_pos (by decide)]
  refine wpAny_bind (wpAny_rule ?_)
  refine wpAny_bind (wpAny_typeNameOf' hT (by decide) ?_)
  have hn : shownName "list" = "list" := by unfold shownName; rw [find?_eq_fast]; kernel_rfl
  rw [hn]
  exact wpAny_bind (raise_type hA (by size_fits) hE)

/-! ### the frames are made ready -/
def Slotted (l : List Env) (h h' : Heap) : Prop :=
  h'.objs.size = h.objs.size ∧ (∀ b, b ∉ fra l → h'.get? b = h.get? b) ∧ ∀ b o, h.get? b = some o → ∃ sl, h'.get? b = some { o with slots := sl }
theorem Slotted.refl (l : List Env) (h : Heap) : Slotted l h h := ⟨rfl, fun _ _ => rfl, fun b o e => ⟨o.slots, e⟩⟩

theorem freed_slots (o : Obj) (sl : Array (Option Value)) : ({ o with slots := sl } : Obj).isFreed = o.isFreed := by
  obtain ⟨c, d, dt, s⟩ := o; cases dt <;> rfl
theorem not_freed {h : Heap} {b : Addr} {o : Obj} (e : h.get? b = some o) : o.isFreed = false := by
  rw [Heap.get?_some_iff] at e; simpa using e.2

theorem ready_frames : ∀ (l : List Env) (s : Shared) (Q : Unit → Shared → Prop), (∀ e ∈ l, e.scope.kind ≠ .module ∧ ∃ f, e.frame = some f ∧ ∃ o, s.heap.get? f = some o) →
    (∀ h', Slotted l s.heap h' → Q () { s with heap := h' }) → wpAny (MM w) A (readyFrames l) Q E s
  | [], s, Q, _, hQ => by
    unfold readyFrames
    exact wpAny_pure (hQ s.heap (.refl ..))
  | env :: l, s, Q, hl, hQ => by
    obtain ⟨hk, f, hf, o, ho⟩ := hl env (List.mem_cons_self ..)
    unfold readyFrames
    simp only [hf]
    refine wpAny_bind (wpAny_load ho ?_)
    by_cases hr : ((o.slots.getD 3 none).isSome) = true
    · rw [if_pos hr]; exact wpAny_pure (hQ _ (.refl ..))
    · rw [if_neg hr]
      refine wpAny_bind (wpAny_of_eq (a := false) (by simp [behindIsImport, hk]) ?_)
      have step : ∀ back : Value, wpAny (MM w) A (do
          update f fun o => { o with slots := #[some env.code, some (.ref env.globals), o.slots.getD 2 none, some back, o.slots.getD 4 none, env.func.map Value.ref, some (.ref env.builtins)] ++ (env.cells.map fun c => some (.ref c.2)).toArray }
          readyFrames l) Q E s := by
        intro back
        refine wpAny_bind (wpAny_update ho ?_)
        have hs := Heap.SameBut.update s.heap f fun o => { o with slots := #[some env.code, some (.ref env.globals), o.slots.getD 2 none, some back, o.slots.getD 4 none, env.func.map Value.ref, some (.ref env.builtins)] ++ (env.cells.map fun c => some (.ref c.2)).toArray }
        have hself := Heap.get?_update_self (h := s.heap) (fun o => { o with slots := #[some env.code, some (.ref env.globals), o.slots.getD 2 none, some back, o.slots.getD 4 none, env.func.map Value.ref, some (.ref env.builtins)] ++ (env.cells.map fun c => some (.ref c.2)).toArray }) ho (by rw [freed_slots]; exact not_freed ho)
        have hall : ∀ b o', s.heap.get? b = some o' → ∃ sl, (s.heap.update f fun o => { o with slots := #[some env.code, some (.ref env.globals), o.slots.getD 2 none, some back, o.slots.getD 4 none, env.func.map Value.ref, some (.ref env.builtins)] ++ (env.cells.map fun c => some (.ref c.2)).toArray }).get? b = some { o' with slots := sl } := by
          intro b o' e
          by_cases hb : b = f
          · subst hb; rw [ho] at e; cases e; exact ⟨_, hself⟩
          · exact ⟨o'.slots, (hs.2 b hb).trans e⟩
        refine ready_frames l _ Q (fun e he => ?_) fun h' hS => ?_
        · obtain ⟨h1, f', h2, o', h3⟩ := hl e (List.mem_cons_of_mem _ he)
          obtain ⟨sl, h4⟩ := hall f' o' h3
          exact ⟨h1, f', h2, _, h4⟩
        · refine hQ h' ⟨hS.1.trans hs.1, fun b hb => ?_, fun b o' e => ?_⟩
          · have hbf : b ≠ f := fun q => hb (by simp [fra, hf, q])
            refine (hS.2.1 b fun q => hb ?_).trans (hs.2 b hbf)
            simp only [fra, List.mem_filterMap] at q ⊢
            obtain ⟨e, he, h⟩ := q
            exact ⟨e, List.mem_cons_of_mem _ he, h⟩
          · obtain ⟨sl, e1⟩ := hall b o' e
            obtain ⟨sl', e2⟩ := hS.2.2 b _ e1
            exact ⟨sl', e2⟩
      cases l with
      | nil => exact wpAny_bind (wpAny_keptBack_nil fun v => step v)
      | cons c r =>
        unfold keptBack
        exact wpAny_bind (wpAny_pure (step _))

/-- an exception is noted in the frame at hand -/
theorem note_new {env : Env} {l : List Env} {L e : Addr} {oe : Obj} {vs : Array Value} {Q : Unit → Shared → Prop} (hfr : A.frames = some (env :: l)) (hf : env.frame = some L)
    (hl : ∀ e ∈ env :: l, e.scope.kind ≠ .module ∧ ∃ f, e.frame = some f ∧ ∃ o, s.heap.get? f = some o) (he : s.heap.get? e = some oe) (hel : e ∉ fra (env :: l)) (hd : oe.data = .fields vs) (h1 : vs[1]? = some .none)
    (h : ∀ h' tb otb tvs, (∀ b, b ∉ fra (env :: l) → b ≠ e → b ≠ tb → h'.get? b = s.heap.get? b) → (∀ b o, b ≠ e → s.heap.get? b = some o → ∃ sl, h'.get? b = some { o with slots := sl }) → s.heap.get? tb = none →
      h'.get? e = some (oe.mapFields (·.setIfInBounds 1 (.ref tb))) → h'.get? tb = some otb → otb.data = .fields tvs → 3 < tvs.size → otb.cls = .type "traceback" → Q () { s with heap := h' }) :
    wpAny (MM w) A (noteFrame (.ref e) env) Q E s := by
  have hsz : 1 < vs.size := (Array.getElem?_eq_some_iff.mp h1).1
  unfold noteFrame
  simp only [hf]
  refine wpAny_bind (wpAny_field he hd h1 ?_)
  rw [if_neg (by decide)]
  unfold PySem.frameOf
  refine wpAny_bind (wpAny_bind (wpAny_frameEnvs hfr ?_))
  have hdw : ((env :: l).dropWhile fun x => x.frame != env.frame) = env :: l := by simp [List.dropWhile]
  rw [hdw]
  unfold frameObject
  refine wpAny_bind (wpAny_bind (ready_frames _ _ _ hl fun h₁ hS => wpAny_pure ?_))
  rw [hf]
  refine wpAny_pure ?_
  refine wpAny_bind (wpAny_entryPlaceOf fun pl hpl => ?_)
  unfold EntryCells.newEntry newFields
  refine wpAny_bind (wpAny_newObj_type ?_ (hpl.sizeOk5 _ _ _ _ _))
  have he₁ : h₁.get? e = some oe := (hS.2.1 e hel).trans he
  have he₂ := Heap.get?_push_of_some (h := h₁) { cls := .type "traceback", dict := none, data := .fields ([Value.none, .ref L, .none, rawInt L, .none] ++ (if pl.isEmpty then List.replicate 6 Value.none else pl)).toArray } he₁
  refine wpAny_setField he₂ hd hsz ?_
  have hTe : h₁.objs.size ≠ e := Nat.ne_of_gt (Heap.lt_size he₁)
  have hd₃ := Obj.data_mapFields hd (·.setIfInBounds 1 (Value.ref h₁.objs.size))
  have hTn : s.heap.get? h₁.objs.size = none := by rw [hS.1]; exact fresh_size _
  refine h _ h₁.objs.size _ _ (fun b hb hbe hbt => ?_) (fun b o hbe ho => ?_) hTn (Heap.get?_update_self _ he₂ (Obj.isFreed_of_fields hd₃)) ((Heap.get?_update_other _ _ (Ne.symm hTe)).trans (Heap.get?_push_size h₁ rfl)) rfl ?_ rfl
  · rw [Heap.get?_update_other _ _ (Ne.symm hbe), ← hS.2.1 b hb]
    exact Heap.get?_push_ne _ _ _ hbt
  · rw [Heap.get?_update_other _ _ (Ne.symm hbe)]
    obtain ⟨sl, e1⟩ := hS.2.2 b o ho
    exact ⟨sl, Heap.get?_push_of_some _ e1⟩
  · simp
end
end Mine
end

/-! ## F38 -/
section
set_option maxRecDepth 100000
namespace Mine

theorem Calm.mono {A : Around} {h h' : Heap} (hA : Calm A h) (k : Le h h') : Calm A h' := by
  rcases hA with hA | ⟨e, o, vs, a1, a2, a3, a4, a5⟩
  · exact .inl hA
  · exact .inr ⟨e, o, vs, a1, k _ _ a2, a3, a4, a5⟩
theorem Calm.ext {A : Around} {h h' : Heap} {it : Addr} (hA : Calm A h) (k : Heap.ExtBut it h h') (hn : A.handled ≠ some (.ref it)) : Calm A h' := by
  rcases hA with hA | ⟨e, o, vs, a1, a2, a3, a4, a5⟩
  · exact .inl hA
  · exact .inr ⟨e, o, vs, a1, k _ _ (fun q => hn (by rw [a1, q])) a2, a3, a4, a5⟩
theorem Calm.at {A A' : Around} {h : Heap} (hA : Calm A h) (e : A'.handled = A.handled) : Calm A' h := by
  unfold Calm at hA ⊢
  rw [e]; exact hA

section
variable {w : World} {A : Around} {E : Value → Shared → Prop} {s : Shared} {hb : Heap}

theorem pyNext_tuple_done {it l : Addr} {i : Nat} {items : Array Value} {Q : Option Value → Shared → Prop} (hA : Calm A s.heap)
    (hit : s.heap.IsTupleIter it l i) (hl : s.heap.IsTuple l items) (hx : items[i]? = none)
    (hQ : ∀ h' tk, Heap.ExtBut it s.heap h' → Q none { s with heap := h', toks := tk }) :
    wpAny (MM w) A (pyNext (.ref it)) Q E s := by
  obtain ⟨o, ho, hc, hd⟩ := id hit
  obtain ⟨ol, hol, _, nl, hdl⟩ := hl
  have hAi := hA.not_of ho (by rw [hc]; decide)
  unfold pyNext
  refine wpAny_bind (wpAny_attempt (wpAny_callSpecial?_slot (name := Str.ofString "__next__") hit.typeIs PySem.F.slot_tuple_iterator_next
    (wpAny_call_entry PySem.F.slot_tuple_iterator_next hit.typeIs PySem.F.entry_tuple_iterator_next ?_ (PySem.F.args_tuple_iterator_next_1 _))))
  show wpAny _ _ (field (.ref it) 0 >>= _) _ _ s
  refine wpAny_bind (wpAny_field ho hd (x := .ref l) rfl ?_)
  show wpAny _ _ (if (Value.ref l == Value.none) = true then _ else _) _ _ s
  rw [if_neg (show ¬ ((Value.ref l == Value.none) = true) from Bool.false_ne_true)]
  show wpAny _ _ (field (.ref it) 1 >>= _) _ _ s
  refine wpAny_bind (wpAny_field ho hd (x := .int i 0) rfl ?_)
  show wpAny _ _ (seqItems? (.ref l) >>= _) _ _ s
  refine wpAny_bind (wpAny_seqItems hol hdl ?_)
  simp only [Int.toNat_natCast, hx]
  refine wpAny_bind (wpAny_rule (wpAny_bind (wpAny_setField ho hd (by simp) ?_)))
  show wpAny _ _ (newExc (.type "StopIteration") [] >>= fun e => raiseNew e) _ _ _
  refine new_stop (by exact hA.at_update hAi) fun h' e tk hl ho => ?_
  obtain ⟨oe, hoe, hce⟩ := ho
  refine wpAny_bind (wpAny_isInstance (T := "StopIteration") (b := true) ⟨oe, hoe, hce⟩ isSubtype_stop ?_)
  exact wpAny_pure (hQ h' tk fun b o hb e => hl b o ((Heap.SameBut.update ..).extBut b o hb e))

theorem unpackItems_calm {t : Addr} {items : Array Value} {Q : List Value → Shared → Prop} (hA : Calm A s.heap) (ht : s.heap.IsTuple t items)
    (hQ : ∀ h' tk, Le s.heap h' → Q items.toList { s with heap := h', toks := tk }) : wpAny (MM w) A (unpackItems (.ref t) items.size none) Q E s := by
  have hlt : t ≠ s.heap.objs.size := by obtain ⟨o, ho, _⟩ := ht; exact Nat.ne_of_lt (Heap.lt_size ho)
  have hfs := fresh_size s.heap
  unfold unpackItems
  refine wpAny_bind ?_
  unfold notIterableAtAll
  refine wpAny_bind (wpAny_specialOf ht.typeIs PySem.F.slot_tuple_iter.lookup ?_)
  refine wpAny_pure ?_
  simp only [Bool.false_eq_true, if_false]
  refine wpAny_bind (wpAny_holding (wpAny_pyIter_tuple ht ?_))
  have hA1 : Calm A (s.heap.push (tupIter t)) := hA.mono fun b o e => Heap.get?_push_of_some _ e
  refine wpAny_bind (wpAny_holding (wpAny_draw_tuple hlt items.size 0 _ _ ⟨_, Heap.get?_push_size _ rfl, rfl, rfl⟩ (ht.push _) (by omega) fun h₁ hit₁ hs₁ => ?_))
  have hall : List.take items.size (List.drop 0 items.toList) = items.toList := by
    rw [List.drop_zero]; exact List.take_of_length_le (by simp)
  rw [hall]
  rw [if_neg (by simp)]
  have ht₁ : h₁.IsTuple t items := (ht.push _).extBut hs₁.extBut hlt
  have hA2 : Calm A h₁ := hA1.ext hs₁.extBut (hA1.not_of (s := { s with heap := s.heap.push (tupIter t) }) (Heap.get?_push_size _ rfl) (by simp [tupIter]))
  refine wpAny_bind (wpAny_holding (pyNext_tuple_done (s := { s with heap := h₁ }) hA2 hit₁ ht₁ (by simp) fun h₂ tk he₂ => ?_))
  simp only [Option.isSome_none, Bool.false_eq_true, if_false]
  refine wpAny_pure (hQ h₂ tk fun b o e => ?_)
  have hb : b ≠ s.heap.objs.size := fun q => by rw [q, hfs] at e; cases e
  exact he₂ b o hb (hs₁.extBut b o hb (Heap.get?_push_of_some _ e))

theorem assign_tuple {env : Env} {elts : List Expr} {x1} {pos : Pos} {t : Addr} {items : Array Value} {Q : Unit → Shared → Prop} (hA : Calm A s.heap) (ht : s.heap.IsTuple t items)
    (hn : (assignEach elts env).length = items.size) (hstar : (assignEach elts env).findIdx? (·.1) = none)
    (h : ∀ h' tk, Le s.heap h' → wpAny (MM w) A (assignInOrder ((assignEach elts env).map (·.2)) items.toList) Q E { s with heap := h', toks := tk }) :
    wpAny (MM w) A (assign (.Tuple elts x1 pos) env (.ref t)) Q E s := by
  rw [arm_assign_Tuple]
  refine wpAny_bind (wpAny_standAt ?_)
  unfold unpack
  rw [hn, hstar]
  exact wpAny_bind (wpAny_holding (unpackItems_calm hA ht h))

/-- the zip may give up its own tuple -/
theorem letGo_zip {dl : List Dr} {z TI TO : Addr} {i : Nat} {v : Value} {tgt : Expr} {hbI : Heap} {Q : Unit → Shared → Prop} (hok : ∀ d ∈ dl, DrOk hbI d) (hap : Zap dl z TI TO) (hst : Zs dl z TI TO i s.heap)
    (hQ : ∀ h', Zs dl z TI TO i h' → Heap.SameBut z s.heap h' → Q () { s with heap := h' }) : wpAny (MM w) A (letOwnedTupleGo tgt (.ref z) v) Q E s := by
  have keep := hQ s.heap hst (.refl ..)
  obtain ⟨⟨f0, b, hz, hf⟩, hTI, ⟨kept, nk, hks, hTO⟩, hS⟩ := hst
  have go : ∀ a : Addr, v = .ref a → wpAny (MM w) A (do
      let o ← load z
      match o.cls, o.data with
      | .type n, .fields vs =>
        if ["enumerate", "zip", "dict_itemiterator", "dict_reverseitemiterator", "odict_iterator", "itertools.zip_longest", "itertools.pairwise"].contains n && vs[0]? == some (rawInt a) then
          rule "for.unpacks-the-owned-tuple"
          updateField z 0 .none
      | _, _ => pure ()) Q E s := by
    intro a _
    refine wpAny_bind (wpAny_load hz ?_)
    dsimp only [zObj]
    refine wpAny_either ?_ (wpAny_pure keep)
    refine wpAny_bind (wpAny_rule ?_)
    show wpAny _ _ (setField (.ref z) 0 .none) Q E s
    refine wpAny_setField_rec hz (by simp) fun h' hz' hs' => hQ h' ⟨⟨_, b, hz', .inl rfl⟩, hs'.extBut _ _ hap.tiz hTI, ⟨kept, nk, hks, hs'.extBut _ _ hap.toz hTO⟩, fun d hd => ?_⟩ hs'
    exact (hok d hd).frame _ _ _ (hS d hd) fun b hb o e => hs'.extBut b o (fun q => (hap.out d hd).1 (q ▸ hb)) e
  unfold letOwnedTupleGo
  cases tgt <;> first | exact wpAny_pure keep | skip
  all_goals (cases v <;> first | exact wpAny_pure keep | exact go _ rfl)
end
end Mine
end

/-! ## F39 -/
section
set_option maxRecDepth 100000
namespace Mine

section
variable {c : Ctx} {ρ ρ' : Rho} {O O' : List Own} {hb hb' : Heap} {s s' : Shared}

theorem SX.tryRet {body orelse : List Stmt} {h₀ : ExceptHandler} {hs : List ExceptHandler} {pos : Pos} {K : Out → Prop} (h : SB c ρ O body K) (hK : ∀ o, K o → ∃ d, o = .ret d) :
    SX c ρ O (exec (.Try body (h₀ :: hs) orelse [] pos) c.env) K := by
  intro s hb S E
  refine wpAny_Try_except (wpAny_mono (h s hb S _) (fun f s₁ ⟨out, hb₁, hk, hle, hd⟩ => ?_) fun _ _ e => e)
  obtain ⟨d, rfl⟩ := hK out hk
  cases f <;> first | exact hd.elim | exact ⟨_, hb₁, hk, hle, hd⟩

/-- len(set((a, b))) -/
theorem EX.lenSet {x y : Str} {p₁ p₂ pos pos' : Pos} {e : Expr} {dy dx : PyData} (hx : EX c ρ O (.Name x p₁) (.raw (.builtin "len"))) (hy : EX c ρ O (.Name y p₂) (.raw (.type "set"))) (he : EX c ρ O e (.py (.tuple [dy, dx])))
    (h1 : Elt dy) (h2 : Elt dx) (hm : Mate dy dx) (hs : ∀ env, starEach [e] env = (false, eval e env) :: starEach [] env := by intro _; rfl) :
    EX c ρ O (.Call (.Name x p₁) [.Call (.Name y p₂) [e] [] pos'] [] pos) (.py (.int (if PyData.eqv dy dx then 1 else 2))) := by
  intro s hb S E
  refine wpAny_Call_Name_kw (wpx S hx fun v s₁ hb₁ x₁ S₁ r₁ => ?_)
  cases r₁
  rw [show starEach [Expr.Call (.Name y p₂) [e] [] pos'] c.env = [(false, eval (.Call (.Name y p₂) [e] [] pos') c.env)] from rfl]
  refine callWith_gen (Calls.evalArgs_plain (Calls.spliced_cons ?_))
  refine wpAny_Call_Name_kw (wpx S₁ hy fun v s₂ hb₂ x₂ S₂ r₂ => ?_)
  cases r₂
  have ha : ArgX c ρ O [e] [] [.py (.tuple [dy, dx])] [] := ArgX.plain (.cons he .nil hs)
  refine callWith_gen (wpx S₂ (ha _ _) fun a s₃ hb₃ x₃ S₃ r₃ => ⟨⟨_, .of_pure rfl⟩, ?_⟩)
  obtain ⟨v, rfl, q⟩ := VA.one r₃
  obtain ⟨t, o, vs, n, rfl, g1, g2, g3, g4⟩ := q.tuple_inv
  obtain ⟨y', x', hvs, vy, vx⟩ : ∃ y' x', vs = #[y', x'] ∧ V hb₃ y' (.py dy) ∧ V hb₃ x' (.py dx) := by
    obtain ⟨l⟩ := vs
    cases g4 with
    | cons p q => cases q with
      | cons p' q => cases q; exact ⟨_, _, rfl, p, p'⟩
  subst hvs
  have hu := S₃.ok.room.un
  refine call_set_two S₃.ok.room.han (by omega) ⟨o, S₃.base.le _ _ g1, g2, n, g3⟩ (Key.elt h1 vy) (Key.elt h2 vx) (Two.elt h1 h2 hm vy vx) S₃.base.le fun Sa h' tk hS hP hle => ?_
  refine Calls.spliced_nil ⟨⟨_, .of_pure rfl⟩, ?_⟩
  obtain ⟨es, ep, tt, e1, e2, e3⟩ := hP
  have hsz : es.size ≤ 2 := by rw [e2]; split <;> omega
  refine call_len_set (s := { s₃ with heap := h', toks := tk }) e1 ⟨rfl, rfl, rfl⟩ rfl e3 (by omega) ?_
  have X : Ext c.l s₃ hb₃ { s₃ with heap := h', toks := tk + 1 + 1 } hb₃ := S₃.same ⟨h', tk + 1 + 1, rfl, hle⟩
  refine ⟨hb₃, ((x₁.trans S.base x₂).trans S.base x₃).trans S.base X, ?_⟩
  have : (es.size : Int) = if PyData.eqv dy dx then 1 else 2 := by rw [e2]; split <;> rfl
  rw [this]
  exact V.int
end

/-- two elements are the same -/
theorem c_ident {w : World} {n : Nat} {dy dx : PyData} (h1 : Elt dy) (h2 : Elt dx) (hm : Mate dy dx) :
    CoC w (.ref 100) (n + 1) (Gd w) [.py dy, .py dx] [] (fun h v => V h v (.py (.bool (PyData.eqv dy dx)))) := by
  refine CoC.def isFn_100 (fun _ h => h) (fun _ _ k g => g.up k) (bs := [("elements", .py (.tuple [dy, dx]))]) (K := fun o => o = .ret (.py (.bool (PyData.eqv dy dx)))) ?_ ?_ (fun A l s₀ hb₀ L => ?_) ?_
  · intro x hx
    simp only [List.mem_cons, List.not_mem_nil, or_false] at hx
    rcases hx with rfl
    exact .inl (by rfl)
  · exact fun A l s hb B hP a ha E => star_binds B ha (fun _ _ => by rfl) E
  · refine SX.seq (SX.mono (SX.tryRet (K := fun o => o = .ret (.py (.bool (PyData.eqv dy dx)))) (SB.ret (d := .py (.bool (PyData.eqv dy dx))) ?_ rfl) (fun o h => ⟨_, h⟩)) ?_)
    · refine EX.conv (EX.cmp (EX.lenSet (EX.builtin rfl (fun _ => by rfl) rfl) (EX.builtin rfl (fun _ => by rfl) rfl) (EX.name (d := .py (.tuple [dy, dx])) rfl) h1 h2 hm) EX.int CmX.eq_int) ?_
      cases PyData.eqv dy dx <;> rfl
    · rintro o rfl
      rfl
  · rintro o rfl
    exact .inl ⟨_, rfl, fun h v x => x⟩
end Mine
end

/-! ## F40 -/
section
set_option maxRecDepth 100000
namespace Mine

section
variable {c : Ctx} {ρ ρ' : Rho} {O O' : List Own} {hb hb' : Heap} {s s' : Shared}

theorem set_raise {x y : Str} {p₁ p₂ pos pos' : Pos} {e : Expr} {xs : List PyData} {dx : PyData} (hx : EX c ρ O (.Name x p₁) (.raw (.builtin "len"))) (hy : EX c ρ O (.Name y p₂) (.raw (.type "set"))) (he : EX c ρ O e (.py (.tuple [.list xs, dx])))
    (hs : ∀ env, starEach [e] env = (false, eval e env) :: starEach [] env := by intro _; rfl) (S : St c ρ O hb s) {E : Value → Shared → Prop} {Q : Value → Shared → Prop}
    (hE : ∀ s₁ hb₁ h' e tk, Ext c.l s hb s₁ hb₁ → Terr s₁.heap h' e → E (.ref e) { s₁ with heap := h', toks := tk }) :
    wpAny (MM c.w) c.A (eval (.Call (.Name x p₁) [.Call (.Name y p₂) [e] [] pos'] [] pos) c.env) Q E s := by
  refine wpAny_Call_Name_kw (wpx S hx fun v s₁ hb₁ x₁ S₁ r₁ => ?_)
  cases r₁
  rw [show starEach [Expr.Call (.Name y p₂) [e] [] pos'] c.env = [(false, eval (.Call (.Name y p₂) [e] [] pos') c.env)] from rfl]
  refine callWith_gen (Calls.evalArgs_plain (Calls.spliced_cons ?_))
  refine wpAny_Call_Name_kw (wpx S₁ hy fun v s₂ hb₂ x₂ S₂ r₂ => ?_)
  cases r₂
  have ha : ArgX c ρ O [e] [] [.py (.tuple [.list xs, dx])] [] := ArgX.plain (.cons he .nil hs)
  refine callWith_gen (wpx S₂ (ha _ _) fun a s₃ hb₃ x₃ S₃ r₃ => ⟨⟨_, .of_pure rfl⟩, ?_⟩)
  obtain ⟨v, rfl, q⟩ := VA.one r₃
  obtain ⟨t, o, vs, n, rfl, g1, g2, g3, g4⟩ := q.tuple_inv
  obtain ⟨y', x', hvs, vy⟩ : ∃ y' x', vs = #[y', x'] ∧ V hb₃ y' (.py (.list xs)) := by
    obtain ⟨l⟩ := vs
    cases g4 with
    | cons p q => cases q with
      | cons p' q => cases q; exact ⟨_, _, rfl, p⟩
  subst hvs
  have hu := S₃.ok.room.un
  exact call_set_not S₃.ok.room.han (by omega) ⟨o, S₃.base.le _ _ g1, g2, n, g3⟩ (NoHash.list vy) S₃.base.le fun h' e tk T => hE s₃ hb₃ h' e tk ((x₁.trans S.base x₂).trans S.base x₃) T

/-! ### names, whatever is handled -/
theorem St.nameA {x : Str} {pos : Pos} {d : D} (S : St c ρ O hb s) (h : ρ x = some d) (hd : (x == ("__debug__" : Str)) = false := by decide) (hn : (x == ("__classdict__" : Str)) = false := by decide) :
    ∃ v, V hb v d ∧ ∀ (A : Around) (E Q : Value → Shared → Prop), Q v s → wpAny (MM c.w) A (eval (.Name x pos) c.env) Q E s := by
  obtain ⟨v, h1, h2⟩ := S.env x d h
  refine ⟨v, h2, fun A E Q hQ => wpAny_Name ?_ hd⟩
  rcases h1 with ⟨h1, m, h3, h4⟩ | ⟨h1, a, h3, h4⟩
  · exact wpAny_loadName_local S.ok.kind h1 h3 h4 hQ
  · rcases h1 with h1 | h1
    · exact wpAny_loadName_cell S.ok.kind h1 h3 h4 hQ
    · exact wpAny_loadName_free S.ok.kind h1 h3 h4 hQ hn
theorem St.builtinA {x : Str} {pos : Pos} {v : Value} (S : St c ρ O hb s) (hx : c.env.kindOf x = some .globalImplicit) (h : ∀ P, nsIn (KG P) mainGlobals x = some none) (hv : bootBuiltins x = some v) (hn : x ≠ "__name__" := by decide)
    (hd : (x == ("__debug__" : Str)) = false := by decide) {A : Around} {E Q : Value → Shared → Prop} (hQ : Q v s) : wpAny (MM c.w) A (eval (.Name x pos) c.env) Q E s := by
  obtain ⟨mg, G⟩ := S.base.gd.mg
  obtain ⟨mb, B, hB⟩ := S.base.gd.bi
  exact Calls.Name_function_global S.ok.kind hx (Calls.loadGlobal_builtin (mg := mg) (mb := mb) (by rw [S.ok.glob]; exact G.keeps S.base.le) (mg_none_of S.base.gd.frag G (h _))
    (by rw [S.ok.bi]; exact B.keeps S.base.le) ((hB x hn).trans hv) hQ) hd
/-- for a, b in zip(el, el[1:]): if a != b: return False; then return True -/
theorem handler {A : Around} {z el a b : Str} {pz p1 p2 p3 p4 p5 pa pb pt pcall p6 p7 p8 p9 p10 p11 pf p12 p13 : Pos} {kk k2 k3 kt : Nat} {dy dx : PyData}
    (S : St c ρ O hb s) (hA : Calm A hb) (hu : A.units + 64 < cLine) (hw : c.wl = true) (ha : c.env.kindOf a = some .local) (hb' : c.env.kindOf b = some .local) (hab : a ≠ b) (hae : a ≠ el)
    (hz : ∀ (s : Shared) (hb : Heap) ρ O, St c ρ O hb s → ∀ (E Q : Value → Shared → Prop), Q (.type "zip") s → wpAny (MM c.w) A (eval (.Name z pz) c.env) Q E s)
    (hel : ρ el = some (.py (.tuple [dy, dx]))) (hdel : (el == ("__debug__" : Str)) = false) (hnel : (el == ("__classdict__" : Str)) = false) (hda : (a == ("__debug__" : Str)) = false) (hna : (a == ("__classdict__" : Str)) = false) (hdb : (b == ("__debug__" : Str)) = false) (hnb : (b == ("__classdict__" : Str)) = false)
    (h1 : PySem.SeqAt.shaped dy = true) (h2 : PySem.SeqAt.shaped dx = true) {E : Value → Shared → Prop} :
    wpAny (MM c.w) A (execs (.For (.Tuple [.Name a pa, .Name b pb] kt pt) (.Call (.Name z pz) [.Name el p1, .Subscript (.Name el p2) (.Slice (some (.Constant (.int 1) kk p3)) none none p4) p5] [] pcall)
      [.If (.Compare (.Name a p6) [.NotEq] [.Name b p7] p8) [.Return (some (.Constant (.bool false) k2 p9)) p10] [] p11] [] pf :: [.Return (some (.Constant (.bool true) k3 p12)) p13]) c.env)
      (fun f s' => ∃ v hb', f = .ret v ∧ Le hb hb' ∧ V hb' v (.py (.bool (PyData.eqv dy dx))) ∧ Ext c.lo c.s₀ c.hb₀ s' hb') E s := by
  obtain ⟨v, hv, ev⟩ := S.nameA (pos := p1) hel hdel hnel
  obtain ⟨v', hv', ev'⟩ := S.nameA (pos := p2) hel hdel hnel
  refine wpAny_execs_cons (wpAny_For ?_ (by intro _; rfl))
  refine wpAny_Call_Name_kw (hz _ _ _ _ S _ _ ?_)
  rw [show starEach [Expr.Name el p1, Expr.Subscript (.Name el p2) (.Slice (some (.Constant (.int 1) kk p3)) none none p4) p5] c.env =
    [(false, eval (.Name el p1) c.env), (false, eval (.Subscript (.Name el p2) (.Slice (some (.Constant (.int 1) kk p3)) none none p4) p5) c.env)] from rfl]
  refine callWith_gen (Calls.evalArgs_plain (Calls.spliced_cons (ev _ _ _ (Calls.spliced_cons ?_))))
  obtain ⟨t, o, vs, n, rfl, g1, g2, g3, g4⟩ := hv'.tuple_inv
  obtain ⟨y', x', hvs, vy, vx⟩ : ∃ y' x', vs = #[y', x'] ∧ V hb y' (.py dy) ∧ V hb x' (.py dx) := by
    obtain ⟨l⟩ := vs
    cases g4 with
    | cons p q => cases q with
      | cons p' q => cases q; exact ⟨_, _, rfl, p, p'⟩
  subst hvs
  have ho := S.base.le _ _ g1
  refine sub_gen PySem.F.slot_tuple_getitem.lookup (ev' _ _ _ (wpAny_Slice ?_))
  rw [evalPart_some]
  refine wpAny_Constant_int ?_
  rw [evalPart_none]
  refine wpAny_pure ?_
  refine wpAny_pure ?_
  refine ⟨⟨o, Heap.get?_push_of_some _ ho, g2⟩, getItem_tuple_from (a := 1) ⟨o, Heap.get?_push_of_some _ ho, g2, n, g3⟩ ⟨_, Heap.get?_push_size _ rfl, rfl, rfl⟩ (Nat.le_refl _) (by simp) ?_ (by simp [sizeLine_eq])⟩
  refine Calls.spliced_nil ⟨⟨_, .of_pure rfl⟩, ?_⟩
  generalize hsl : s.heap.push _ = hs1
  have k1 : ∀ b o, s.heap.get? b = some o → hs1.get? b = some o := fun b o e => by rw [← hsl]; exact Heap.get?_push_of_some _ e
  have n1 : s.heap.get? hs1.objs.size = none := by rw [← hsl, Heap.size_push]; exact fresh_ge (Nat.le_succ _)
  have K : Keeps s { s with heap := hs1.push { cls := .type "tuple", data := .seq (((#[y', x'] : Array Value).toList.drop 1).toArray) }, toks := s.toks + 1 } := ⟨_, _, rfl, fun b o e => Heap.get?_push_of_some _ (k1 b o e)⟩
  obtain ⟨hb₁, X₁, hT2⟩ := S.base.newTuple (xs := [dx]) K n1 (Heap.get?_push_size _ rfl) rfl rfl (.cons vx .nil)
  have S₁ := S.step X₁
  refine call_zip (hb := hb₁) (.cons (hv.up X₁.le) (.cons hT2 .nil)) (.cons Itb.tuple (.cons Itb.tuple .nil)) S₁.base.le (by simp) fun dl h' z' TI TO hds hok hap hst hfp hle nz nTI nTO nit => ?_
  obtain ⟨hb₂, X₂, k₂, hf, hw'⟩ := zip_taken S₁ hds hok hap hst hfp hle nz nTI nTO nit
  have S₂ : St c ρ (zOwn dl z' TI TO 0 :: O) hb₂ _ := St.take S₁ (S₁.step X₂) (zOwn_ok hok hap _) hst hf (fun b h => (hw' b h).1) (fun b h => (hw' b h).2)
  have hle2 : Le hb hb₂ := fun b o e => X₂.le b o (X₁.le b o e)
  have hge : ∀ ds ∈ [([dy, dx] : List PyData).map D.py, ([dx] : List PyData).map D.py], 1 ≤ ds.length := fun ds hds => by
    simp only [List.mem_cons, List.not_mem_nil, or_false] at hds
    rcases hds with rfl | rfl <;> simp
  have hex : ∃ ds ∈ [([dy, dx] : List PyData).map D.py, ([dx] : List PyData).map D.py], ds.length = 1 := ⟨([dx] : List PyData).map D.py, by simp, rfl⟩
  refine pyIter_zip hst ?_
  refine codeAny_forLoop_any (fun k s' => (k = 1 ∧ ∃ hb', Le hb hb' ∧ Le hb₁ hb' ∧ St c ρ (zOwn dl z' TI TO 0 :: O) hb' s') ∨ (k = 0 ∧ PyData.eqv dy dx = true ∧ ∃ ρ' hb', Le hb hb' ∧ St c ρ' (zOwn dl z' TI TO 1 :: O) hb' s')) ?_ 1 (.inl ⟨rfl, hb₂, hle2, X₂.le, S₂⟩)
  rintro k s' (⟨rfl, hb₃, hle3, hle31, S₃⟩ | ⟨rfl, heq, ρ', hb₃, hle3, S₃⟩)
  · refine wpAny_mono (zip_step (n := 1) hds hok hap (by simp) hge (by simp) (by omega) hle31 S₃) (fun r s₃ ⟨T, hb₄, hr, hle₄, S₄, hT⟩ => ?_) fun _ _ e => e
    subst hr
    dsimp only
    have hle4 : Le hb hb₄ := fun b o e => hle₄ b o (hle3 b o e)
    obtain ⟨T', oT, vsT, nT, rfl, t1, t2, t3, t4⟩ := hT
    obtain ⟨y₂, x₂, hvs, wy, wx⟩ : ∃ y' x', vsT = #[y', x'] ∧ V hb₄ y' (.py dy) ∧ V hb₄ x' (.py dx) := by
      obtain ⟨l⟩ := vsT
      cases t4 with
      | cons p q => cases q with
        | cons p' q => cases q; exact ⟨_, _, rfl, p, p'⟩
    subst hvs
    obtain ⟨q1, q2, q3, q4⟩ := S₄.own _ (List.mem_cons_self ..)
    refine letGo_zip hok hap q2 fun h₅ hZ hs₅ => ?_
    have S₅ : St c ρ (zOwn dl z' TI TO 1 :: O) hb₄ { s₃ with heap := h₅ } := S₄.write_own (o₂ := zOwn dl z' TI TO 1) _ (fun b o hb e => hs₅.extBut b o (fun q => hb (q ▸ List.mem_cons_self ..)) e) rfl gid (zOwn_ok hok hap _) hZ (fun b h => h) q3
    refine assign_tuple (s := { s₃ with heap := h₅ }) ((hA.mono hle4).mono S₅.base.le) ⟨oT, S₅.base.le _ _ t1, t2, nT, t3⟩ rfl rfl fun h₆ tk₆ hl₆ => ?_
    have S₆ := S₅.step (S₅.same (s' := { s₃ with heap := h₆, toks := tk₆ }) ⟨h₆, tk₆, rfl, hl₆⟩)
    refine wpAny_bind (wpAny_holding (wpAny_assign_Name (wpAny_mono (S₆.write_local hw ha wy) (fun _ s₇ S₇ => ?_) fun _ _ e => e)))
    refine wpAny_bind (wpAny_holding (wpAny_assign_Name (wpAny_mono (S₇.write_local hw hb' wx) (fun _ s₈ S₈ => ?_) fun _ _ e => e)))
    refine wpAny_pure ?_
    obtain ⟨u, hu1, eu⟩ := S₈.nameA (pos := p6) (x := a) (d := .py dy) (by simp [put, hab]) hda hna
    obtain ⟨u', hu1', eu'⟩ := S₈.nameA (pos := p7) (x := b) (d := .py dx) (by simp [put]) hdb hnb
    refine wpAny_execs_cons (wpAny_If (wpAny_isTrue_Compare1 (eu _ _ _ (eu' _ _ _ ?_)) rfl))
    obtain ⟨as, r1⟩ := hu1
    obtain ⟨bs, r2⟩ := hu1'
    refine PyProof.Rows.ne_dataH (PyProof.Rows.Reads.keeps S₈.base.le r1) (PyProof.Rows.Reads.keeps S₈.base.le r2) h1 h2 hu (wpAny_truthy_bool ?_)
    cases hq : PyData.eqv dy dx with
    | false =>
      simp only [Bool.not_false, if_true]
      refine wpAny_execs_cons (wpAny_Return_some (wpAny_Constant_bool ?_))
      exact ⟨.bool false, hb₄, rfl, hle4, V.bool, S₈.ext⟩
    | true =>
      simp only [Bool.not_true, Bool.false_eq_true, if_false]
      refine wpAny_execs_nil (wpAny_execs_nil ?_)
      exact ⟨0, by decide, .inr ⟨rfl, by trivial, _, hb₄, hle4, S₈⟩⟩
  · refine wpAny_mono (zip_stop (n := 1) ((hA.mono hle3).mono S₃.base.le) hds hok hap (by simp) hge hex (by simp) S₃) (fun r s₃ ⟨hb₄, hr, hle₄, S₄⟩ => ?_) fun _ _ e => e
    subst hr
    refine wpAny_execs_nil ?_
    refine wpAny_execs_cons (wpAny_Return_some (wpAny_Constant_bool ?_))
    exact ⟨.bool true, hb₄, rfl, fun b o e => hle₄ b o (hle3 b o e), by rw [heq]; exact V.bool, S₄.ext⟩
end
end Mine
end

/-! ## F41 -/
section
set_option maxRecDepth 100000
namespace Mine

section
variable {c : Ctx} {ρ ρ' : Rho} {O O' : List Own} {hb hb' : Heap} {s s' : Shared}

/-- after an error is noted in the frames: the state holds on -/
theorem St.noted {s₁ : Shared} {hb₁ : Heap} {h' h₃ : Heap} {e tb : Addr} {tk : Nat} (S : St c ρ O hb₁ s₁) (T : Terr s₁.heap h' e) (htb : h'.get? tb = none)
    (k1 : ∀ b, b ∉ fra c.l → b ≠ e → b ≠ tb → h₃.get? b = h'.get? b) (k2 : ∀ b o, b ≠ e → b ≠ tb → h'.get? b = some o → ∃ sl, h₃.get? b = some { o with slots := sl }) {oe : Obj} (he : h₃.get? e = some oe) :
    ∃ hb₃, Ext c.l s₁ hb₁ { s₁ with heap := h₃, toks := tk } hb₃ ∧ Le hb₁ hb₃ ∧ hb₃.get? e = some oe := by
  have hne : ∀ b o, s₁.heap.get? b = some o → b ≠ e ∧ b ≠ tb := fun b o q => ⟨fun h => (by rw [h, T.new] at q; cases q), fun h => (by have := T.le _ _ q; rw [h, htb] at this; cases this)⟩
  have keep : ∀ b o, b ∉ fra c.l → s₁.heap.get? b = some o → h₃.get? b = some o := fun b o hf q => (k1 b hf (hne b o q).1 (hne b o q).2).trans (T.le _ _ q)
  have K : Kp c.l s₁ { s₁ with heap := h₃, toks := tk } := by
    refine ⟨fun b o _ hf q => keep b o hf q, fun b hf hp o q => k2 b o (hne b o q).1 (hne b o q).2 (T.le _ _ q), fun tab => ?_, rfl, gid⟩
    refine tab.mod (W := fun b => b ∈ fra c.l) (fun b o hf q => keep b o hf q) (fun q => (S.base.fr _ q).2.1 rfl) fun b hf o q vs hd => ?_
    obtain ⟨_, _, m, o', es, ep, q', d', _⟩ := S.base.fr b hf
    rw [q] at q'; cases q'; rw [hd] at d'; cases d'
  have X := Ext.same S.base K
  obtain ⟨X', k⟩ := X.add T.new
  exact ⟨_, X', k, only_get.mpr ⟨.inr rfl, he⟩⟩

theorem isSub_te : isSubtype (.type "TypeError") (.type "BaseException") = pure true := by rw [isSubtype_type]; kernel_rfl
theorem isSub_tt : isSubtype (.type "TypeError") (.type "TypeError") = pure true := by rw [isSubtype_type]; kernel_rfl
theorem te_meta : isSubtype (.type ((Manifest.find? "TypeError").elim "type" fun x => x.metatype)) (.type "tuple") = pure false := by rw [find?_eq_fast, isSubtype_type]; kernel_rfl

/-- the road through the handler -/
theorem try_type {l' : List Env} {L : Addr} {body : List Stmt} {b₀ : Stmt} {suite : List Stmt} {pt pos hpos : Pos} {Q : Flow → Shared → Prop} {E : Value → Shared → Prop} (S : St c ρ O hb s) (hl : c.l = c.env :: l') (hL : c.env.frame = some L)
    (hkt : c.env.kindOf "TypeError" = some .globalImplicit) (hg : ∀ P, nsIn (KG P) mainGlobals "TypeError" = some none)
    (hbody : ∀ (E' : Value → Shared → Prop), (∀ s₁ hb₁ h' e tk, Ext c.l s hb s₁ hb₁ → Terr s₁.heap h' e → E' (.ref e) { s₁ with heap := h', toks := tk }) → wpAny (MM c.w) c.A (execs body c.env) (fun _ _ => False) E' s)
    (hsuite : ∀ s₁ hb₁ e, Le hb hb₁ → St c ρ O hb₁ s₁ → Calm (c.A.mark (some (.ref e))) hb₁ → ∀ E', wpAny (MM c.w) (c.A.mark (some (.ref e))) (execs (b₀ :: suite) c.env) Q E' s₁) :
    wpAny (MM c.w) c.A (exec (.Try body [.ExceptHandler (some (.Name "TypeError" pt)) none (b₀ :: suite) hpos] [] [] pos) c.env) Q E s := by
  refine wpAny_Try_except (wpAny_mono (hbody _ fun s₁ hb₁ h' e tk X₁ T => ?_) (fun f s₁ h => h.elim) fun _ _ h => h)
  have S₁ := S.step X₁
  obtain ⟨oe, vs, he, hce, hde, hv1, hv2⟩ := T.there
  have hel : e ∉ fra c.l := fun q => by obtain ⟨_, _, m, o', _, _, q', _⟩ := S₁.base.fr e q; rw [T.new] at q'; cases q'
  have hsz := (Array.getElem?_eq_some_iff.mp hv2).1
  have hroom := S₁.ok.room.fr
  rw [hl] at hroom
  refine note_new (s := { s₁ with heap := h', toks := tk }) hroom hL (fun en hen => ?_) he (by rw [← hl]; exact hel) hde hv1 fun h₂ tb otb tvs k1 k2 htb ge gtb dtb sz ctb => ?_
  · rw [← hl] at hen
    obtain ⟨a1, f, a2⟩ := S₁.base.fk en hen
    have hf : f ∈ fra c.l := List.mem_filterMap.mpr ⟨en, hen, a2⟩
    obtain ⟨_, _, m, o', _, _, q', _⟩ := S₁.base.fr f hf
    exact ⟨a1, f, a2, _, T.le _ _ q'⟩
  have hd₂ := Obj.data_mapFields hde (·.setIfInBounds 1 (Value.ref tb))
  have hv1' : (vs.setIfInBounds 1 (Value.ref tb))[1]? = some (.ref tb) := by
    rw [Array.getElem?_setIfInBounds_self_of_lt (by omega)]
  have hte : tb ≠ e := fun q => by rw [q] at htb; rw [show ({ s₁ with heap := h', toks := tk } : Shared).heap = h' from rfl, he] at htb; cases htb
  refine wpAny_setFlight_none (s := { s₁ with heap := h₂, toks := tk }) ge hd₂ hv1' gtb dtb sz ?_
  have hdt := Obj.data_mapFields dtb (·.setIfInBounds 3 Value.none)
  have hs₃ := Heap.SameBut.update h₂ tb (Obj.mapFields (·.setIfInBounds 3 .none))
  have gtb₃ := Heap.get?_update_self (h := h₂) (Obj.mapFields (·.setIfInBounds 3 .none)) gtb (Obj.isFreed_of_fields hdt)
  generalize h₂.update tb (Obj.mapFields (·.setIfInBounds 3 .none)) = h₃ at *
  have ge₃ := (hs₃.2 e (Ne.symm hte)).trans ge
  have K1 : ∀ b, b ∉ fra c.l → b ≠ e → b ≠ tb → h₃.get? b = h'.get? b := fun b a1 a2 a3 => (hs₃.2 b a3).trans (k1 b (by rw [← hl]; exact a1) a2 a3)
  have K2 : ∀ b o, b ≠ e → b ≠ tb → h'.get? b = some o → ∃ sl, h₃.get? b = some { o with slots := sl } := fun b o a2 a3 q => by
    obtain ⟨sl, q'⟩ := k2 b o a2 q; exact ⟨sl, (hs₃.2 b a3).trans q'⟩
  obtain ⟨hb₃, X₃, le₃, _⟩ := S₁.noted (tk := tk) T htb K1 K2 ge₃
  have S₃ := S₁.step X₃
  refine wpAny_handleBy_builtin (X := "TypeError") (T := "TypeError") (b := true) isSub_te te_meta isSub_tt ?_
  refine S₃.builtinA hkt hg rfl (by decide) (by decide) ?_
  refine ⟨rfl, ⟨_, ge₃, (Obj.cls_mapFields ..).trans hce⟩, ?_⟩
  simp only [if_true]
  refine wpAny_setFlight_none (s := { s₁ with heap := h₃, toks := tk }) ge₃ hd₂ hv1' gtb₃ hdt (by simp; omega) ?_
  have hs₄ := Heap.SameBut.update h₃ tb (Obj.mapFields (·.setIfInBounds 3 .none))
  generalize h₃.update tb (Obj.mapFields (·.setIfInBounds 3 .none)) = h₄ at *
  have ge₄ := (hs₄.2 e (Ne.symm hte)).trans ge₃
  obtain ⟨hb₄, X₄, le₄, he₄⟩ := S₁.noted (tk := tk) T htb (fun b a1 a2 a3 => (hs₄.2 b a3).trans (K1 b a1 a2 a3)) (fun b o a2 a3 q => by
    obtain ⟨sl, q'⟩ := K2 b o a2 a3 q; exact ⟨sl, (hs₄.2 b a3).trans q'⟩) ge₄
  have S₄ := S₁.step X₄
  refine hsuite _ hb₄ e (fun b o q => le₄ b o (X₁.le b o q)) S₄ (.inr ⟨e, _, _, rfl, he₄, (Obj.cls_mapFields ..).trans hce, hd₂, ?_⟩) _
  rw [Array.getElem?_setIfInBounds_ne (by decide)]
  exact hv2
end
end Mine
end

/-! ## F42 -/
section
set_option maxRecDepth 100000
namespace Mine

theorem mark_units {A : Around} {v : Option Value} {k : Nat} (h : A.units + k + 80 < cLine) : (A.mark v).units + 64 < cLine := by
  show A.units + 64 < cLine
  omega
theorem b_identL {w : World} {n : Nat} {A : Around} {l : List Env} {s₀ : Shared} {hb₀ : Heap} {L : Addr} {xs ys : List PyData} (h1 : PySem.SeqAt.shaped (.list xs) = true) (h2 : PySem.SeqAt.shaped (.list ys) = true) :
    SB (fctx w n A l s₀ hb₀ fd_100 L 100 (Gd w)) (rho [("elements", .py (.tuple [.list xs, .list ys]))] ρ0) [] (dBody d_ident) (fun o => o = .ret (.py (.bool (PyData.eqv (.list xs) (.list ys))))) := by
  intro s hb S E
  refine wpAny_execs_cons (try_type S (l' := l) (L := L) rfl rfl rfl (fun _ => by rfl) (fun E' hE' => ?_) fun s₁ hb₁ e hle S₁ hC E' => ?_)
  · refine wpAny_execs_cons (wpAny_Return_some (wpAny_Compare1 (set_raise (EX.builtin rfl (fun _ => by rfl) rfl) (EX.builtin rfl (fun _ => by rfl) rfl) (EX.name (d := .py (.tuple [.list xs, .list ys])) rfl) (by intro _; rfl) S hE') (by rfl)))
  · have hu := S₁.ok.room.un
    refine wpAny_mono (handler S₁ hC (mark_units hu) rfl rfl rfl (by decide) (by decide) (fun s hb ρ O S E Q hQ => S.builtinA rfl (fun _ => by rfl) rfl (by decide) (by decide) hQ) rfl (by decide) (by decide) (by decide) (by decide) (by decide) (by decide) h1 h2) (fun f s₂ ⟨v, hb₂, hf, hle2, hv, hx⟩ => ?_) fun _ _ e => e
    subst hf
    exact ⟨_, hb₂, rfl, fun b o q => hle2 b o (hle b o q), hv, hx⟩

theorem c_identL {w : World} {n : Nat} {xs ys : List PyData} (h1 : PySem.SeqAt.shaped (.list xs) = true) (h2 : PySem.SeqAt.shaped (.list ys) = true) :
    CoC w (.ref 100) (n + 1) (Gd w) [.py (.list xs), .py (.list ys)] [] (fun h v => V h v (.py (.bool (PyData.eqv (.list xs) (.list ys))))) := by
  refine CoC.def isFn_100 (fun _ h => h) (fun _ _ k g => g.up k) (bs := [("elements", .py (.tuple [.list xs, .list ys]))]) (K := fun o => o = .ret (.py (.bool (PyData.eqv (.list xs) (.list ys))))) ?_ ?_ (fun A l s₀ hb₀ L => b_identL h1 h2) ?_
  · intro x hx
    simp only [List.mem_cons, List.not_mem_nil, or_false] at hx
    rcases hx with rfl
    exact .inl (by rfl)
  · exact fun A l s hb B hP a ha E => star_binds B ha (fun _ _ => by rfl) E
  · rintro o rfl
    exact .inl ⟨_, rfl, fun h v x => x⟩
end Mine
end

/-! ## C4 -/
section
set_option maxRecDepth 100000
namespace Mine

theorem fo_maximum {P : Params} {C : Addr} {es : List DictEntry} {n : Nat} (hC : C = 173 ∨ C = 214 ∨ C = 255) (h : lookIn "maximum" (dictOf es n) = some none) : findObj (KG P) C (some (dictOf es n)) "maximum" = some (.bind (.builtin "staticmethod.__get__") (.ref 57)) := by
  rcases hC with rfl | rfl | rfl <;> exact findObj_fn (by rfl) (by rfl) (by rfl) (by rfl) (by rfl) h

theorem clsOk {C : Addr} (hC : C = 173 ∨ C = 214 ∨ C = 255) : ClsOk C := by
  rcases hC with rfl | rfl | rfl
  · exact cls_ham
  · exact cls_lev
  · exact cls_dam

section
variable {c : Ctx} {ρ ρ' : Rho} {O O' : List Own}
theorem SB.ifTrue {t : Expr} {a b rest : List Stmt} {pos : Pos} {K : Out → Prop} (ht : TR c ρ O t true) (h : SB c ρ O a (Then c rest K)) : SB c ρ O (.If t a b pos :: rest) K := SB.if ht h
theorem SB.ifFalse {t : Expr} {a b rest : List Stmt} {pos : Pos} {K : Out → Prop} (ht : TR c ρ O t false) (h : SB c ρ O b (Then c rest K)) : SB c ρ O (.If t a b pos :: rest) K := SB.if ht h
theorem SB.skip {rest : List Stmt} {K : Out → Prop} (h : SB c ρ O rest K) : SB c ρ O [] (Then c rest K) := SB.nil h
end

/-- what the quick answer is -/
def quickD (xs ys : List PyData) : PyData :=
  if PyData.eqv (.list xs) (.list ys) then .int 0 else if !xs.isEmpty && !ys.isEmpty then .none else .int (max xs.length ys.length : Nat)

theorem b_quick {w : World} {n : Nat} {A : Around} {l : List Env} {s₀ : Shared} {hb₀ : Heap} {L : Addr} {xs ys : List PyData} {C : Addr} {attrs : List (Str × D)} (hC : C = 173 ∨ C = 214 ∨ C = 255) (hn1 : attrs.lookup ("_ident" : Str) = none) (hn2 : attrs.lookup ("maximum" : Str) = none)
    (h1 : PySem.SeqAt.shaped (.list xs) = true) (h2 : PySem.SeqAt.shaped (.list ys) = true) (l1 : xs.length < 1000) (l2 : ys.length < 1000) :
    SB (fctx w (n + 1) A l s₀ hb₀ fd_93 L 93 (Gd w)) (rho [("self", IV C attrs), ("sequences", .py (.tuple [.list xs, .list ys]))] ρ0) [] (dBody d_quick_answer) (fun o => o = .ret (.py (quickD xs ys))) := by
  refine SB.ifFalse (TR.not (TR.of (EX.name (d := .py (.tuple [.list xs, .list ys])) rfl) (TrX.tuple (by simp))) rfl) (SB.skip ?_)
  refine SB.ifFalse (TR.cmp (d₁ := .py (.int 2)) (EX.call1 (EX.builtin rfl (fun _ => by rfl) rfl) (EX.name rfl) (FnC.len_tuple (xs := [.list xs, .list ys]) (by simp)) Keeps?.builtin) EX.int CmX.eq_int) (SB.skip ?_)
  refine SB.if (k := PyData.eqv (.list xs) (.list ys)) (TR.of (TX.static (p := 102) (f := 100) (EX.name rfl) (clsOk hC) (fun _ _ _ h => fo_ident hC h) hn1 (fun _ => by rfl) (ArgX.lone (EX.name (d := .py (.tuple [.list xs, .list ys])) rfl) (.inr rfl)) (c_identL (n := 0) h1 h2).fn (isFn_100.keeps fun _ h => h) (by show 1 ≤ n + 1; omega)) TrX.bool) ?_
  cases he : PyData.eqv (.list xs) (.list ys) with
  | true => exact SB.ret EX.int (by rw [quickD, if_pos he]; rfl)
  | false =>
    refine SB.skip ?_
    refine SB.if (k := !(!xs.isEmpty && !ys.isEmpty)) (TR.not (TR.of (EX.call1 (EX.builtin rfl (fun _ => by rfl) rfl) (EX.name (d := .py (.tuple [.list xs, .list ys])) rfl) (FnC.all_pair (by omega) (by omega)) Keeps?.builtin) TrX.bool) rfl) ?_
    cases ha : (!xs.isEmpty && !ys.isEmpty) with
    | false =>
      refine SB.ret (TX.static (p := 57) (f := 55) (EX.name rfl) (clsOk hC) (fun _ _ _ h => fo_maximum hC h) hn2 (fun _ => by rfl) (ArgX.lone (EX.name (d := .py (.tuple [.list xs, .list ys])) rfl) (.inr rfl)) (c_maximum (n := 0) (by omega) (by omega)).fn (isFn_55.keeps fun _ h => h) (by show 1 ≤ n + 1; omega)) ?_
      simp only [quickD, he, ha, Bool.false_eq_true, if_false]
      rfl
    | true =>
      refine SB.skip (SB.ret EX.noneX ?_)
      simp [quickD, he, ha]

theorem c_quick {w : World} {n : Nat} {xs ys : List PyData} {C : Addr} {attrs : List (Str × D)} (hC : C = 173 ∨ C = 214 ∨ C = 255) (hn1 : attrs.lookup ("_ident" : Str) = none) (hn2 : attrs.lookup ("maximum" : Str) = none)
    (h1 : PySem.SeqAt.shaped (.list xs) = true) (h2 : PySem.SeqAt.shaped (.list ys) = true) (l1 : xs.length < 1000) (l2 : ys.length < 1000) :
    CoC w (.ref 93) (n + 2) (Gd w) [IV C attrs, .py (.list xs), .py (.list ys)] [] (fun h v => V h v (.py (quickD xs ys))) := by
  refine CoC.def isFn_93 (fun _ h => h) (fun _ _ k g => g.up k) (bs := [("self", IV C attrs), ("sequences", .py (.tuple [.list xs, .list ys]))]) (K := fun o => o = .ret (.py (quickD xs ys))) ?_ ?_ (fun A l s₀ hb₀ L => b_quick hC hn1 hn2 h1 h2 l1 l2) ?_
  · intro x hx
    simp only [List.mem_cons, List.not_mem_nil, or_false] at hx
    rcases hx with rfl | rfl <;> exact .inl (by rfl)
  · exact fun A l s hb B hP a ha E => self_star_binds B ha (fun _ _ _ => by rfl) E
  · rintro o rfl
    exact .inl ⟨_, rfl, fun h v x => x⟩
end Mine
end

/-! ## C5 -/
section
set_option maxRecDepth 100000
namespace Mine

theorem no_qval {C : Addr} (hC : C = 173 ∨ C = 214 ∨ C = 255) : ∀ P, findIn (KG P) (.ref C) "qval" = some none := by
  rcases hC with rfl | rfl | rfl <;> exact fun _ => by rfl

theorem two_items {x y : PyData} {i : Nat} {d : D} (h : (([x, y] : List PyData).map D.py)[i]? = some d) : i < 2 ∧ d = .py (pick2 x y i) := by
  match i with
  | 0 => simp at h; exact ⟨by omega, h.symm⟩
  | 1 => simp at h; exact ⟨by omega, h.symm⟩
  | i + 2 => simp at h

theorem CmX.conv {op : CmpOp} {a b : D} {k k' : Bool} (h : CmX op a b k) (e : k = k') : CmX op a b k' := e ▸ h

section
variable {w : World} {n : Nat} {A : Around} {l : List Env} {s₀ : Shared} {hb₀ : Heap} {L C : Addr} {attrs : List (Str × D)}
/-- pieces -/
theorem b_get_n {x y : Str} {q : Nat} (hC : C = 173 ∨ C = 214 ∨ C = 255) (hq : attrs.lookup ("qval" : Str) = some (.py (.int q))) (h2 : 2 ≤ q) (h5 : q ≤ 5) (ax : x.cps.all (· < 128) = true) (ay : y.cps.all (· < 128) = true) (lx : x.length ≤ 1000) (ly : y.length ≤ 1000) :
    SB (fctx w (n + 2) A l s₀ hb₀ fd_108 L 108 (Gd w)) (rho [("self", IV C attrs), ("sequences", .py (.tuple [.str x, .str y]))] ρ0) [] (dBody d_get_sequences) (fun o => o = .ret (.py (.list [.list (win (signsD x) q), .list (win (signsD y) q)]))) := by
  refine SB.ifFalse (TR.not (TR.of (EX.attr (EX.name (d := IV C attrs) rfl) (clsOk hC) hq Handed.int (no_qval hC) (fun _ => by rfl)) TrX.int) (by simp; omega)) (SB.skip ?_)
  refine SB.ifFalse (TR.cmp (EX.attr (EX.name (d := IV C attrs) rfl) (clsOk hC) hq Handed.int (no_qval hC) (fun _ => by rfl)) EX.int (CmX.conv CmX.eq_int (by simp; omega))) (SB.skip ?_)
  refine SB.ret (d := .py (.list [.list (win (signsD x) q), .list (win (signsD y) q)])) ?_ rfl
  refine EX.conv (FX.ex (FX.compItems ["self"] (ds := ([.str x, .str y] : List PyData).map D.py) (g := fun i => .list (win (signsD (pick2 x y i)) q)) (IX.tuple (EX.name (d := .py (.tuple [.str x, .str y])) rfl)) (by simp) (fun C' s hb O i d hd => ?_)
    (hvis := vis_cons (vis rfl rfl (fun _ => rfl) rfl) vis_nil) (hx := fun _ _ _ => stoL rfl rfl))) ?_
  · obtain ⟨hi, rfl⟩ := two_items hd
    have hp : pick2 (PyData.str x) (PyData.str y) i = .str (pick2 x y i) := by
      match i with
      | 0 => rfl
      | _ + 1 => rfl
    rw [hp]
    refine EX.fn (n := 2) rfl (fun _ => by rfl) (.plain (.cons (EX.name rfl) (.cons (EX.attr (EX.name (d := IV C attrs) rfl) (clsOk hC) hq Handed.int (no_qval hC) (fun _ => by rfl)) .nil))) (c_find_ngrams (k := 0) ?_ ?_ (by omega) h5) isFn_26 (by show 2 ≤ n + 2; omega)
    · match i with
      | 0 => exact ax
      | _ + 1 => exact ay
    · match i with
      | 0 => exact lx
      | _ + 1 => exact ly
  · rfl

/-- words -/
theorem b_get_w {x y : Str} {q : PyData} (hC : C = 173 ∨ C = 214 ∨ C = 255) (hq : attrs.lookup ("qval" : Str) = some (.py q)) (hh : Handed (.py q)) (ht : TrX (.py q) false) (lx : x.length ≤ 1000) (ly : y.length ≤ 1000) :
    SB (fctx w (n + 2) A l s₀ hb₀ fd_108 L 108 (Gd w)) (rho [("self", IV C attrs), ("sequences", .py (.tuple [.str x, .str y]))] ρ0) [] (dBody d_get_sequences) (fun o => o = .ret (.py (.list [.list ((Txt.words x).map .str), .list ((Txt.words y).map .str)]))) := by
  refine SB.ifTrue (TR.not (TR.of (EX.attr (EX.name (d := IV C attrs) rfl) (clsOk hC) hq hh (no_qval hC) (fun _ => by rfl)) ht) rfl) ?_
  refine SB.ret (d := .py (.list [.list ((Txt.words x).map .str), .list ((Txt.words y).map .str)])) ?_ rfl
  refine EX.conv (FX.ex (FX.compItems [] (ds := ([.str x, .str y] : List PyData).map D.py) (g := fun i => .list ((Txt.words (pick2 x y i)).map .str)) (IX.tuple (EX.name (d := .py (.tuple [.str x, .str y])) rfl)) (by simp) (fun C' s hb O i d hd => ?_)
    (hvis := vis_nil) (hx := fun _ _ _ => stoL rfl rfl))) ?_
  · obtain ⟨hi, rfl⟩ := two_items hd
    have hp : pick2 (PyData.str x) (PyData.str y) i = .str (pick2 x y i) := by
      match i with
      | 0 => rfl
      | _ + 1 => rfl
    rw [hp]
    refine EX.strSplit (EX.name rfl) ?_
    match i with
    | 0 => exact lx
    | _ + 1 => exact ly
  · rfl

/-- as they are -/
theorem b_get_1 {x y : PyData} (hC : C = 173 ∨ C = 214 ∨ C = 255) (hq : attrs.lookup ("qval" : Str) = some (.py (.int 1))) :
    SB (fctx w (n + 2) A l s₀ hb₀ fd_108 L 108 (Gd w)) (rho [("self", IV C attrs), ("sequences", .py (.tuple [x, y]))] ρ0) [] (dBody d_get_sequences) (fun o => o = .ret (.py (.list [x, y]))) := by
  refine SB.ifFalse (TR.not (TR.of (EX.attr (EX.name (d := IV C attrs) rfl) (clsOk hC) hq Handed.int (no_qval hC) (fun _ => by rfl)) TrX.int) (by simp)) (SB.skip ?_)
  refine SB.ifTrue (TR.cmp (EX.attr (EX.name (d := IV C attrs) rfl) (clsOk hC) hq Handed.int (no_qval hC) (fun _ => by rfl)) EX.int (CmX.conv CmX.eq_int (by simp))) ?_
  refine SB.ret (d := .py (.list [x, y])) ?_ rfl
  exact EX.call1 (EX.builtin rfl (fun _ => by rfl) rfl) (EX.name (d := .py (.tuple [x, y])) rfl) (FnC.list_tuple (by simp [sizeLine_eq])) Keeps?.type
end

section
variable {w : World} {n : Nat} {C : Addr} {attrs : List (Str × D)}
theorem def_108 {x y : PyData} {d : PyData} (hb : ∀ A l s₀ hb₀ L, SB (fctx w (n + 2) A l s₀ hb₀ fd_108 L 108 (Gd w)) (rho [("self", IV C attrs), ("sequences", .py (.tuple [x, y]))] ρ0) [] (dBody d_get_sequences) (fun o => o = .ret (.py d))) :
    CoC w (.ref 108) (n + 3) (Gd w) [IV C attrs, .py x, .py y] [] (fun h v => V h v (.py d)) := by
  refine CoC.def isFn_108 (fun _ h => h) (fun _ _ k g => g.up k) (bs := [("self", IV C attrs), ("sequences", .py (.tuple [x, y]))]) (K := fun o => o = .ret (.py d)) ?_ ?_ (fun A l s₀ hb₀ L => hb A l s₀ hb₀ L) ?_
  · intro x hx
    simp only [List.mem_cons, List.not_mem_nil, or_false] at hx
    rcases hx with rfl | rfl
    · exact .inr ⟨by rfl, fun _ => by rfl⟩
    · exact .inl (by rfl)
  · exact fun A l s hb B hP a ha E => self_star_binds B ha (fun _ _ _ => by rfl) E
  · rintro o rfl
    exact .inl ⟨_, rfl, fun h v x => x⟩
end
end Mine
end

/-! ## F43 -/
section
set_option maxRecDepth 100000
namespace Mine

/-! ### lists that change -/
def mutOwn (a : Addr) (vs : List Value) : Own := ⟨[a], [a], fun h => h.IsList a vs.toArray⟩
theorem mutOwn_ok (a : Addr) (vs : List Value) : (mutOwn a vs).Ok :=
  ⟨fun _ h => h, fun h h' hp k => hp.at fun o e => k a (List.mem_cons_self ..) o e, fun h ⟨o, e, hc, _⟩ b hb => by
    rcases List.mem_cons.mp hb with rfl | hb
    · exact ⟨_, e, by rw [hc]; decide⟩
    · cases hb⟩

section
variable {c : Ctx} {ρ ρ' : Rho} {O O' : List Own} {hb hb' : Heap} {s s' : Shared}

theorem St.takeFX {xs : List PyData} {a : Addr} {vs : List Value} {s₁ : Shared} {hb₁ : Heap} (S : St c ρ O hb s) (X : Ext c.l s hb s₁ hb₁) (hn : s.heap.get? a = none) (hna : hb₁.get? a = none) (hl : s₁.heap.PlainList a vs.toArray) : St c ρ (mutOwn a vs :: O) hb₁ s₁ := by
  obtain ⟨n, e⟩ := hl
  refine St.take S (S.step X) (mutOwn_ok _ _) ⟨_, e, rfl, n, rfl⟩ (fun b h => .inl h) (fun b h => ?_) (fun b h => ?_)
  · rcases List.mem_cons.mp h with rfl | h
    · exact hn
    · cases h
  · rcases List.mem_cons.mp h with rfl | h
    · exact hna
    · cases h

/-- a list that is changed no more is data -/
theorem St.freeze {a : Addr} {vs : List Value} {xs : List PyData} {x : Str} (S : St c ρ (mutOwn a vs :: O) hb s) (hx : ρ x = some (.raw (.ref a))) (hv : VL hb vs (xs.map .py)) :
    ∃ hb', Le hb hb' ∧ St c (put ρ x (.py (.list xs))) O hb' s := by
  obtain ⟨k1, ⟨o, ho, hc, n, hd⟩, k3, k4⟩ := S.own _ (List.mem_cons_self ..)
  have off := k4 a (List.mem_cons_self ..)
  have k : Le hb (addH hb a s.heap) := fun b o e => only_get.mpr ⟨.inl ⟨o, e⟩, S.base.le b o e⟩
  have nn : ∀ b, b ≠ a → hb.get? b = none → (addH hb a s.heap).get? b = none := fun b h1 h2 => only_none (by
    rintro (⟨o, e⟩ | e)
    · rw [h2] at e; cases e
    · exact h1 e)
  have hV : V (addH hb a s.heap) (.ref a) (.py (.list xs)) := .mkList (only_get.mpr ⟨.inr rfl, ho⟩) hc hd (by simpa using hv.up k)
  refine ⟨_, k, ?_⟩
  refine { ok := S.ok, base := ⟨fun b o e => (only_get.mp e).2, nn _ (Ne.symm off.ph) S.base.ph, fun b hb => ⟨nn _ (fun e => off.fr (e ▸ hb)) (S.base.fr b hb).1, (S.base.fr b hb).2⟩, S.base.gd.up k, S.base.tab, S.base.fk⟩, env := fun y d e => ?_, loc := ⟨S.loc.1, nn _ (Ne.symm off.loc) S.loc.2.1, S.loc.2.2⟩, cells := fun n a' h => let ⟨h1, h2, h3⟩ := S.cells n a' h; ⟨h1, nn _ (off.cell n a' h) h2, h3⟩, cellsA := S.cellsA, own := fun o ho => ?_, disj := (List.pairwise_cons.mp S.disj).2, pers := S.ok.pup _ _ k S.pers, ext := ?_ }
  · unfold put at e
    by_cases q : y = x
    · subst q
      rw [if_pos rfl] at e; cases e
      obtain ⟨v, h1, h2⟩ := S.env y _ hx
      cases h2
      exact ⟨_, h1, hV⟩
    · rw [if_neg q] at e
      obtain ⟨v, h1, h2⟩ := S.env y d e
      exact ⟨v, h1, h2.up k⟩
  · obtain ⟨h1, h2, h3, h4⟩ := S.own o (List.mem_cons_of_mem _ ho)
    refine ⟨h1, h2, fun b hb => (h3 b hb).imp id fun ⟨ob, e⟩ => ⟨ob, k _ _ e⟩, fun b hb => { h4 b hb with hb := nn b (fun e => ?_) (h4 b hb).hb }⟩
    exact (List.pairwise_cons.mp S.disj).1 o ho a (List.mem_cons_self ..) (e ▸ hb)
  · refine ⟨S.ext.kp, fun b o e => k b o (S.ext.le b o e), fun b o e => ?_, fun b o e => (only_get.mp e).2⟩
    obtain ⟨h | rfl, e'⟩ := only_get.mp e
    · obtain ⟨o', h⟩ := h
      have := S.base.le b o' h
      rw [e'] at this; cases this
      exact S.ext.gr b o h
    · exact .inr off.s₀
theorem SB.freeze {a : Addr} {vs : List Value} {xs : List PyData} {x : Str} {ss : List Stmt} {K : Out → Prop} (hx : ρ x = some (.raw (.ref a))) (hv : ∀ hb, VL hb vs (xs.map .py)) (h : SB c (put ρ x (.py (.list xs))) O ss K) : SB c ρ (mutOwn a vs :: O) ss K := by
  intro s hb S E
  obtain ⟨hb', k, S'⟩ := S.freeze hx (hv hb)
  exact SX.up h S' k E

/-- an item of a list that changes -/
theorem EX.ownItem {value slice : Expr} {pos : Pos} {a : Addr} {vs : List Value} {k : Int} {d : PyData} (h₁ : EX c ρ O value (.raw (.ref a))) (h₂ : EX c ρ O slice (.py (.int k))) (hm : mutOwn a vs ∈ O) (h0 : 0 ≤ k) (h1 : k < 2 ^ 63) {v : Value} (hv : vs[k.toNat]? = some v) (hd : ∀ hb, V hb v (.py d)) :
    EX c ρ O (.Subscript value slice pos) (.py d) := by
  intro s hb S E
  refine sub_gen PySem.F.slot_list_getitem.lookup (wpx S h₁ fun v₁ s₁ hb₁ x₁ S₁ r₁ => wpx S₁ h₂ fun v₂ s₂ hb₂ x₂ S₂ r₂ => ?_)
  cases r₁
  obtain ⟨t, rfl⟩ := r₂.int_inv
  obtain ⟨_, hp, _⟩ := S₂.own _ hm
  have hp' : s₂.heap.IsList a vs.toArray := hp
  refine ⟨?_, wpAny_getItem_list hp' h0 h1 (x := v) (by simpa using hv) ⟨hb₂, x₁.trans S.base x₂, hd _⟩⟩
  obtain ⟨o, ho, hc, _⟩ := hp'
  exact ⟨o, ho, hc⟩

/-- an item is set -/
theorem SX.setItem {o i value : Expr} {pos' pos : Pos} {a : Addr} {vs : List Value} {k : Int} {d : PyData} {K : Out → Prop} (hv : EX c ρ (mutOwn a vs :: O) value (.py d)) (ho : EX c ρ (mutOwn a vs :: O) o (.raw (.ref a))) (hi : EX c ρ (mutOwn a vs :: O) i (.py (.int k))) (h0 : 0 ≤ k) (hk : k < 2 ^ 63) (hn : k.toNat < vs.length)
    (hd : Rigid (.py d)) (hK : ∀ v, (∀ hb, V hb v (.py d)) → K (.next ρ (mutOwn a (vs.set k.toNat v) :: O)))
    (hs : swapsWith value (some (.Subscript o i pos')) pos.line c.env = Pure.pure false := by rfl) : SX c ρ (mutOwn a vs :: O) (exec (.Assign [.Subscript o i pos'] value pos) c.env) K := by
  intro s hb S E
  refine wpAny_Assign_Subscript (wpx S hv fun v s₁ hb₁ x₁ S₁ r₁ => wpx S₁ ho fun ov s₂ hb₂ x₂ S₂ r₂ => wpx S₂ hi fun iv s₃ hb₃ x₃ S₃ r₃ => ?_) hs
  cases r₂
  obtain ⟨t, rfl⟩ := r₃.int_inv
  obtain ⟨k1, k2, k3, k4⟩ := S₃.own _ (List.mem_cons_self ..)
  refine wpAny_setItem_list k2 h0 hk (by simp; omega) fun h' hl hs' => ?_
  have hr := hd _ _ r₁
  have e : (vs.toArray.setIfInBounds k.toNat v) = (vs.set k.toNat v).toArray := by simp
  rw [e] at hl
  have S₄ : St c ρ (mutOwn a (vs.set k.toNat v) :: O) hb₃ { s₃ with heap := h' } := S₃.write_own (o₂ := mutOwn a (vs.set k.toNat v)) _ (fun b o hb e => hs'.extBut b o (fun q => hb (q ▸ List.mem_cons_self ..)) e) rfl gid (mutOwn_ok _ _) hl (fun b h => h) fun b h => .inl h
  exact ⟨_, hb₃, hK v hr, fun b o e => x₃.le b o (x₂.le b o (x₁.le b o e)), S₄⟩
end
end Mine
end

/-! ## F44 -/
section
set_option maxRecDepth 100000
namespace Mine

section
variable {prog : Program} {w : World} {A : Around} {E : Value → Shared → Prop} {s : Shared}
theorem draw_list {it t : Addr} {items : Array Value} (hne : t ≠ it) : ∀ (n i : Nat) (s : Shared) (Q : List Value → Shared → Prop), s.heap.IsListIter it t i → s.heap.IsList t items → i + n ≤ items.size →
    (∀ h', h'.IsListIter it t (i + n) → Heap.SameBut it s.heap h' → Q ((items.toList.drop i).take n) { s with heap := h' }) → wpAny (model prog w) A (draw (.ref it) n) Q E s
  | 0, i, s, Q, hit, _, _, hQ => by
    show wpAny _ _ (pure []) Q E s
    exact wpAny_pure (by simpa using hQ s.heap hit (Heap.SameBut.refl ..))
  | n + 1, i, s, Q, hit, ht, hle, hQ => by
    have hlt : i < items.size := by omega
    show wpAny _ _ (pyNext (.ref it) >>= _) Q E s
    refine wpAny_bind (wpAny_pyNext_list_item hit ht (x := items[i]) (by simp [hlt]) fun h₁ hit₁ hs₁ => ?_)
    refine wpAny_bind (wpAny_holding (draw_list hne n (i + 1) _ _ hit₁ (ht.extBut hs₁.extBut hne) (by omega) fun h₂ hit₂ hs₂ => wpAny_pure ?_))
    have hd : items.toList.drop i = items[i] :: items.toList.drop (i + 1) := by simp [List.drop_eq_getElem_cons, hlt]
    have := hQ h₂ (by rw [show i + (n + 1) = i + 1 + n by omega]; exact hit₂) (hs₁.trans hs₂)
    rw [hd, List.take_succ_cons] at this
    exact this
theorem unpackItems_list {t : Addr} {items : Array Value} {Q : List Value → Shared → Prop} (hA : A.handled = none) (ht : s.heap.IsList t items)
    (hQ : ∀ h' tk, Le s.heap h' → Q items.toList { s with heap := h', toks := tk }) : wpAny (model prog w) A (unpackItems (.ref t) items.size none) Q E s := by
  have hlt : t ≠ s.heap.objs.size := by obtain ⟨o, ho, _⟩ := ht; exact Nat.ne_of_lt (Heap.lt_size ho)
  have hfs := fresh_size s.heap
  unfold unpackItems
  refine wpAny_bind ?_
  unfold notIterableAtAll
  refine wpAny_bind (wpAny_specialOf ht.typeIs PySem.F.slot_list_iter.lookup ?_)
  refine wpAny_pure ?_
  simp only [Bool.false_eq_true, if_false]
  refine wpAny_bind (wpAny_holding (wpAny_pyIter_list ht ?_))
  have hl0 : (s.heap.push { cls := .type "list_iterator", data := .fields #[.ref t, .int 0 0] }).IsList t items := by
    obtain ⟨o, ho, r⟩ := ht; exact ⟨o, Heap.get?_push_of_some _ ho, r⟩
  refine wpAny_bind (wpAny_holding (draw_list hlt items.size 0 _ _ ⟨_, Heap.get?_push_size _ rfl, rfl, rfl⟩ hl0 (by omega) fun h₁ hit₁ hs₁ => ?_))
  have hall : List.take items.size (List.drop 0 items.toList) = items.toList := by
    rw [List.drop_zero]; exact List.take_of_length_le (by simp)
  rw [hall]
  rw [if_neg (by simp)]
  have ht₁ : h₁.IsList t items := hl0.extBut hs₁.extBut hlt
  refine wpAny_bind (wpAny_holding (wpAny_pyNext_list_end hA hit₁ ht₁ (by simp) fun h₂ he₂ => ?_))
  simp only [Option.isSome_none, Bool.false_eq_true, if_false]
  refine wpAny_pure (hQ h₂ s.toks fun b o e => ?_)
  have hb : b ≠ s.heap.objs.size := fun q => by rw [q, hfs] at e; cases e
  exact he₂ b o hb (hs₁.extBut b o hb (Heap.get?_push_of_some _ e))
end

section
variable {c : Ctx} {ρ ρ' : Rho} {O O' : List Own} {hb hb' : Heap} {s s' : Shared}

/-- the sum of two lists is a new list -/
theorem FX.addList {e₁ e₂ : Expr} {pos : Pos} {xs ys : List PyData} (h₁ : EX c ρ O e₁ (.py (.list xs))) (h₂ : EX c ρ O e₂ (.py (.list ys))) (hsz : xs.length + ys.length ≤ sizeLine) : FX c ρ O (eval (.BinOp e₁ .Add e₂ pos) c.env) (xs ++ ys) := by
  intro s hb S E
  refine wpAny_BinOp (wpx S h₁ fun v₁ s₁ hb₁ x₁ S₁ r₁ => wpx S₁ h₂ fun v₂ s₂ hb₂ x₂ S₂ r₂ => ?_)
  obtain ⟨a, ⟨oc, od, odat, osl⟩, vs, n, rfl, g1, g2, g3, g4⟩ := (r₁.up x₂.le).list_inv
  obtain ⟨b, ⟨pc, pd, pdat, psl⟩, us, m, rfl, k1, k2, k3, k4⟩ := r₂.list_inv
  simp only at g2 g3 k2 k3
  subst g2 g3 k2 k3
  have ho := S₂.base.le _ _ g1
  have ho2 := S₂.base.le _ _ k1
  have hl1 := g4.length
  have hl2 := k4.length
  simp only [List.length_map, Array.length_toList] at hl1 hl2
  refine concat_meets ⟨_, ho, rfl⟩ ⟨_, ho2, rfl⟩ noFill_list_add seq_list_add PySem.F.slot_list_add PySem.F.entry_list_add (PySem.F.args_list_add_2 _ _) (list_addW a b vs us n m od pd osl psl (by rw [hl1, hl2]; exact hsz)) ⟨ho, ho2, ?_⟩
  have X := (x₁.trans S.base x₂).trans S.base (S₂.same (keeps_push s₂ { cls := .type "list", data := .seq (vs ++ us) } s₂.toks))
  have hn := fresh_size s₂.heap
  refine ⟨hb₂, s₂.heap.objs.size, (vs ++ us).toList, rfl, X, (x₁.trans S.base x₂).kp.none S.base.tab hn, ?_, ⟨0, ?_⟩, ?_⟩
  · cases e : hb₂.get? s₂.heap.objs.size with
    | none => rfl
    | some o => have := S₂.base.le _ _ e; rw [hn] at this; cases this
  · have := Heap.get?_push_size s₂.heap (o := { cls := .type "list", data := .seq (vs ++ us) }) rfl
    rw [Array.toArray_toList]
    exact this
  · rw [List.map_append, Array.toList_append]
    exact g4.append k4

theorem EX.listDisp {es : List Expr} {pos : Pos} {xs : List PyData} (h : EL c ρ O es (xs.map .py)) (hsz : xs.length ≤ 1000) : EX c ρ O (.List es pos) (.py (.list xs)) := by
  intro s hb S E
  refine wpAny_List_spliced (wpx S h.sp fun vs s₁ hb₁ x₁ S₁ r₁ => ?_)
  have hl := r₁.length
  rw [List.length_map] at hl
  refine ⟨by rw [sizeLine_eq]; omega, ?_⟩
  obtain ⟨hb', X, hV⟩ := S₁.base.newList (xs := xs) (keeps_push s₁ { cls := .type "list", data := .seq vs.toArray } s₁.toks) (fresh_size _) (Heap.get?_push_size _ rfl) rfl rfl (by simpa using r₁)
  exact ⟨hb', x₁.trans S.base X, hV⟩
theorem EX.tupleDisp {es : List Expr} {k : Nat} {pos : Pos} {xs : List PyData} (h : EL c ρ O es (xs.map .py)) (hsz : xs.length ≤ 1000) : EX c ρ O (.Tuple es k pos) (.py (.tuple xs)) := by
  intro s hb S E
  refine wpAny_Tuple_spliced (wpx S h.sp fun vs s₁ hb₁ x₁ S₁ r₁ => ?_)
  have hl := r₁.length
  rw [List.length_map] at hl
  refine ⟨by rw [sizeLine_eq]; omega, ?_⟩
  obtain ⟨hb', X, hV⟩ := S₁.base.newTuple (xs := xs) (keeps_push s₁ { cls := .type "tuple", data := .seq vs.toArray } s₁.toks) (fresh_size _) (Heap.get?_push_size _ rfl) rfl rfl (by simpa using r₁)
  exact ⟨hb', x₁.trans S.base X, hV⟩

/-- a list or tuple of things of any kind, displayed -/
theorem EX.seqDisp {es : List Expr} {pos : Pos} {ds : List D} (h : EL c ρ O es ds) (hsz : ds.length ≤ 1000) : EX c ρ O (.List es pos) (LV ds) := by
  intro s hb S E
  refine wpAny_List_spliced (wpx S h.sp fun vs s₁ hb₁ x₁ S₁ r₁ => ?_)
  have hl := r₁.length
  refine ⟨by rw [sizeLine_eq]; omega, ?_⟩
  have K := keeps_push s₁ { cls := .type "list", data := .seq vs.toArray } s₁.toks
  refine ⟨_, x₁.trans S.base (S₁.base.keeps K), V.seq ⟨_, _, vs.toArray, 0, rfl, mx_new (fresh_size _) (Heap.get?_push_size _ rfl), rfl, rfl, ?_⟩⟩
  simpa using r₁.up (S₁.base.keeps K).le
theorem EX.tupDisp {es : List Expr} {k : Nat} {pos : Pos} {ds : List D} (h : EL c ρ O es ds) (hsz : ds.length ≤ 1000) : EX c ρ O (.Tuple es k pos) (TV ds) := by
  intro s hb S E
  refine wpAny_Tuple_spliced (wpx S h.sp fun vs s₁ hb₁ x₁ S₁ r₁ => ?_)
  have hl := r₁.length
  refine ⟨by rw [sizeLine_eq]; omega, ?_⟩
  have K := keeps_push s₁ { cls := .type "tuple", data := .seq vs.toArray } s₁.toks
  refine ⟨_, x₁.trans S.base (S₁.base.keeps K), V.seq ⟨_, _, vs.toArray, 0, rfl, mx_new (fresh_size _) (Heap.get?_push_size _ rfl), rfl, rfl, ?_⟩⟩
  simpa using r₁.up (S₁.base.keeps K).le

theorem FnC.list_range {w : World} {n : Nat} {P : Heap → Prop} {b : Nat} (hb' : b ≤ 1000) : FnC w (.type "list") n P [.sat (RgV 0 b)] [] (fun h v => V h v (.py (.list ((List.range b).map fun (i : Nat) => .int i)))) := by
  intro A l s hb R B hP a ha E
  obtain ⟨v, rfl, hv⟩ := ha.one
  obtain ⟨r, t, u, x, rfl, hr⟩ := V.out hv
  refine call_list_range (n := b) R.han (B.le _ _ hr) (small_one (by decide) (by decide) (by omega) (by omega)) ?_ (by omega) fun h' tk acc' c' hk hl hi => ?_
  · rw [rangeSize_one]; split <;> omega
  · refine B.newList (xs := (List.range b).map fun (i : Nat) => .int i) ⟨h', tk, rfl, hk⟩ (fresh_size _) hl rfl rfl ?_
    obtain ⟨hsz, hall⟩ := hi
    refine VL.of_get (by simp [hsz]) fun k d e => ?_
    simp only [List.getElem?_map, Option.map_eq_some_iff] at e
    obtain ⟨p, ⟨i, hi, rfl⟩, rfl⟩ := e
    have hk : k < b := by have := (List.getElem?_eq_some_iff.mp hi).1; simpa using this
    have hik : i = k := by
      have := (List.getElem?_eq_some_iff.mp hi).2
      simpa using this.symm
    subst hik
    have hlt : i < acc'.size := by omega
    obtain ⟨t, ht⟩ := hall i acc'[i] (by simp [hlt])
    refine ⟨acc'[i], by simp [hlt], ?_⟩
    rw [ht]
    have : (0 : Int) + i * 1 = i := by omega
    rw [this]
    exact V.int

/-! ### several names at once -/
theorem St.assignName (S : St c ρ O hb s) {x : Str} {p : Pos} {v : Value} {d : D} (hx : Sto c x) (hv : V hb v d) {E : Value → Shared → Prop} : wpAny (MM c.w) c.A (assign (.Name x p) c.env v) (fun _ s' => St c (put ρ x d) O hb s') E s :=
  wpAny_assign_Name (S.store hx hv)

/-- a, b = a pair -/
theorem SB.assign2 {a b : Str} {pa pb p pos : Pos} {k : Nat} {e : Expr} {d₁ d₂ : D} {T : String} {rest : List Stmt} {K : Out → Prop} (hT : T = "list" ∨ T = "tuple") (h : EX c ρ O e (.sat (SeqV T [d₁, d₂]))) (ha : Sto c a) (hb : Sto c b)
    (hK : SB c (put (put ρ a d₁) b d₂) O rest K) (hs : swapsWithSole [.Tuple [.Name a pa, .Name b pb] k p] e pos.line c.env = Pure.pure false := by rfl) (hsw : swappedStores [.Tuple [.Name a pa, .Name b pb] k p] e c.env = Pure.pure Option.none := by rfl) :
    SB c ρ O (.Assign [.Tuple [.Name a pa, .Name b pb] k p] e pos :: rest) K := by
  intro s hb₀ S E
  refine wpAny_execs_cons ?_
  rw [arm_exec_Assign]
  refine wpAny_bind (wpAny_standAt (wpAny_bind (wpAny_of_eq hs ?_)))
  simp only [Bool.false_eq_true, if_false]
  refine wpAny_bind (wpx S h fun v s₁ hb₁ x₁ S₁ r₁ => ?_)
  rw [hsw]
  refine wpAny_bind (wpAny_pure ?_)
  unfold assignStores
  obtain ⟨t, o, vs, n, rfl, g1, g2, g3, g4⟩ := V.out r₁
  obtain ⟨y', x', hvs, vy, vx⟩ : ∃ y' x', vs = #[y', x'] ∧ V hb₁ y' d₁ ∧ V hb₁ x' d₂ := by
    obtain ⟨l⟩ := vs
    cases g4 with
    | cons p q => cases q with
      | cons p' q => cases q; exact ⟨_, _, rfl, p, p'⟩
  subst hvs
  show wpAny _ _ (PySem.assign (Expr.Tuple [.Name a pa, .Name b pb] k p) c.env (Value.ref t) >>= fun _ => Pure.pure Flow.next) _ _ _
  have fin : ∀ h' tk, Le s₁.heap h' → wpAny (MM c.w) c.A (assignInOrder ((assignEach [.Name a pa, .Name b pb] c.env).map (·.2)) [y', x']) (fun _ s' => wpAny (MM c.w) c.A (Pure.pure Flow.next : Sem Flow) (fun f s' => match f with | .next => wpAny (MM c.w) c.A (execs rest c.env) (fun f s' => ∃ out hb', K out ∧ Le hb₀ hb' ∧ Done c out f hb' s') E s' | f => ∃ out hb', K out ∧ Le hb₀ hb' ∧ Done c out f hb' s') E s') E { s₁ with heap := h', toks := tk } := by
    intro h' tk hl
    have S₂ := S₁.step (S₁.same (s' := { s₁ with heap := h', toks := tk }) ⟨h', tk, rfl, hl⟩)
    refine wpAny_bind (wpAny_holding (wpAny_mono (S₂.assignName ha vy) (fun _ s₃ S₃ => ?_) fun _ _ e => e))
    refine wpAny_bind (wpAny_holding (wpAny_mono (S₃.assignName hb vx) (fun _ s₄ S₄ => ?_) fun _ _ e => e))
    exact wpAny_pure (wpAny_pure (SX.up hK S₄ x₁.le E))
  refine wpAny_bind ?_
  rcases hT with rfl | rfl
  · rw [arm_assign_Tuple]
    refine wpAny_bind (wpAny_standAt ?_)
    unfold unpack
    exact wpAny_bind (wpAny_holding (unpackItems_list (items := #[y', x']) S₁.ok.room.han ⟨o, S₁.base.le _ _ g1, g2, n, g3⟩ fin))
  · exact assign_tuple (.inl S₁.ok.room.han) ⟨o, S₁.base.le _ _ g1, g2, n, g3⟩ rfl rfl fin

/-- a, b = e, a new list -/
theorem SB.swapOwn {a b : Str} {pa pb p p' pos : Pos} {k k' : Nat} {e₁ e₂ : Expr} {d₁ : D} {xs : List PyData} {rest : List Stmt} {K : Out → Prop} (h₁ : EX c ρ O e₁ d₁) (h₂ : FX c ρ O (eval e₂ c.env) xs) (ha : Sto c a) (hb : Sto c b)
    (hr : ∀ h vs, VL h vs (xs.map .py) → ∀ h', VL h' vs (xs.map .py))
    (hK : ∀ a' vs, (∀ h, VL h vs (xs.map .py)) → SB c (put (put ρ b (.raw (.ref a'))) a d₁) (mutOwn a' vs :: O) rest K)
    (hst : ∀ env, starEach [e₁, e₂] env = [(false, eval e₁ env), (false, eval e₂ env)] := by intro _; rfl)
    (hs : swapsWithSole [.Tuple [.Name a pa, .Name b pb] k p] (.Tuple [e₁, e₂] k' p') pos.line c.env = Pure.pure false := by rfl)
    (hsw : swappedStores [.Tuple [.Name a pa, .Name b pb] k p] (.Tuple [e₁, e₂] k' p') c.env = Pure.pure (some [a, b]) := by rfl) :
    SB c ρ O (.Assign [.Tuple [.Name a pa, .Name b pb] k p] (.Tuple [e₁, e₂] k' p') pos :: rest) K := by
  intro s hb₀ S E
  refine wpAny_execs_cons ?_
  rw [arm_exec_Assign]
  refine wpAny_bind (wpAny_standAt (wpAny_bind (wpAny_of_eq hs ?_)))
  simp only [Bool.false_eq_true, if_false]
  refine wpAny_bind (wpAny_Tuple_spliced ?_)
  rw [hst]
  refine Calls.spliced_cons (wpx S h₁ fun v₁ s₁ hb₁ x₁ S₁ r₁ => Calls.spliced_cons (wpAny_mono (h₂ s₁ hb₁ S₁ E) (fun v₂ s₂ ⟨hb₂, a', vs, hv₂, x₂, hn, hna, hl, hvl⟩ => Calls.spliced_nil ?_) fun _ _ e => e))
  subst hv₂
  refine ⟨by simp [sizeLine_eq], ?_⟩
  rw [hsw]
  refine wpAny_bind (wpAny_pure ?_)
  unfold assignStores
  dsimp only
  have S₂ : St c ρ (mutOwn a' vs :: O) hb₂ s₂ := S₁.takeFX (xs := xs) x₂ hn hna hl
  have S₃ := S₂.step (S₂.same (keeps_push s₂ { cls := .type "tuple", data := .seq [v₁, Value.ref a'].toArray } s₂.toks))
  refine wpAny_bind (wpAny_rule (wpAny_bind (unpackItems_calm (s := { s₂ with heap := s₂.heap.push { cls := .type "tuple", data := .seq [v₁, Value.ref a'].toArray } }) (items := #[v₁, .ref a']) (.inl S₃.ok.room.han) ⟨_, Heap.get?_push_size _ rfl, rfl, 0, rfl⟩ fun h' tk hl' => ?_)))
  have S₄ := S₃.step (S₃.same (s' := { s₂ with heap := h', toks := tk }) ⟨h', tk, rfl, hl'⟩)
  refine wpAny_bind ?_
  show wpAny _ _ (assignInOrder [fun v => bindName c.env b v, fun v => bindName c.env a v] [Value.ref a', v₁]) _ _ _
  refine wpAny_bind (wpAny_holding (wpAny_bindName (wpAny_mono (S₄.store (d := .raw (.ref a')) hb rfl) (fun _ s₅ S₅ => ?_) fun _ _ e => e)))
  refine wpAny_bind (wpAny_holding (wpAny_bindName (wpAny_mono (S₅.store (d := d₁) ha (r₁.up x₂.le)) (fun _ s₆ S₆ => ?_) fun _ _ e => e)))
  refine wpAny_pure (wpAny_pure ?_)
  exact SX.up (hK a' vs (hr _ _ hvl)) S₆ (fun b o e => x₂.le b o (x₁.le b o e)) E
end
end Mine
end

/-! ## C6 -/
section
set_option maxRecDepth 100000
namespace Mine

section
variable {c : Ctx} {ρ ρ' : Rho} {O O' : List Own} {hb hb' : Heap} {s s' : Shared}
theorem EX.notX {e : Expr} {pos : Pos} {d : D} {b : Bool} (h : EX c ρ O e d) (ht : TrX d b) : EX c ρ O (.UnaryOp .Not e pos) (.py (.bool (!b))) := by
  intro s hb S E
  rw [arm_eval_UnaryOp]
  refine wpAny_bind (wpx S h fun v s₁ hb₁ x₁ S₁ r₁ => wpAny_bind (wpAny_standAt (wpAny_holding (wpAny_holding ?_))))
  show wpAny _ _ (truthy v >>= fun t => Pure.pure (Value.bool (!t))) _ _ _
  refine wpAny_bind (ht _ _ hb₁ s₁ v r₁ S₁.base.le _ _ fun tk => wpAny_pure ⟨hb₁, x₁.trans S.base (S₁.tok tk), V.bool⟩)
end

theorem EX.neg1 {c : Ctx} {ρ : Rho} {O : List Own} {k : Nat} {p pos : Pos} {i : Int} : EX c ρ O (.UnaryOp .USub (.Constant (.int i) k p) pos) (.py (.int (-i))) := by
  intro s hb S E
  rw [arm_eval_UnaryOp]
  refine wpAny_bind (wpAny_Constant_int (wpAny_bind (wpAny_standAt (wpAny_holding (PyProof.Rows.neg_int ?_)))))
  exact ⟨hb, S.tok _, V.int⟩
theorem FnC.int_int {w : World} {n : Nat} {P : Heap → Prop} {i : Int} : FnC w (.type "int") n P [.py (.int i)] [] (fun h v => V h v (.py (.int i))) := by
  intro A l s hb R B hP a ha E
  obtain ⟨v, rfl, hv⟩ := ha.one
  obtain ⟨t, rfl⟩ := hv.int_inv
  exact call_int_1 (gives_int_new_int i t).meets (show (Made.val (.int i t)).post _ s from ⟨rfl, hb, .refl B, V.int⟩)

theorem FX.conv {c : Ctx} {ρ : Rho} {O : List Own} {t : Sem Value} {xs ys : List PyData} (h : FX c ρ O t xs) (e : xs = ys) : FX c ρ O t ys := e ▸ h
theorem SB.perm {c : Ctx} {ρ : Rho} {O O' : List Own} {ss : List Stmt} {K : Out → Prop} (h : O'.Perm O) (hs : SB c ρ O ss K) : SB c ρ O' ss K := fun s hb S E => hs s hb (S.perm h) E
theorem TX.sat {c : Ctx} {ρ : Rho} {O : List Own} {t : Sem Value} {F : Heap → Value → Prop} (h : TX c ρ O t F) (up : ∀ h h', Le h h' → ∀ v, F h v → F h' v) : TX c ρ O t fun hb v => V hb v (.sat F) :=
  h.mono fun hb v x => .sat x fun h h' k y => up h h' k v y
theorem EX.lenList {c : Ctx} {ρ : Rho} {O : List Own} {e : Expr} {p₁ pos : Pos} {zs : List PyData} (h : EX c ρ O e (.py (.list zs))) (hk : c.env.kindOf "len" = some .globalImplicit) (hz : zs.length < 1000)
    (hs : ∀ env, starEach [e] env = (false, eval e env) :: starEach [] env := by intro _; rfl) : EX c ρ O (.Call (.Name "len" p₁) [e] [] pos) (.py (.int zs.length)) :=
  EX.call1 (EX.builtin hk (fun _ => by rfl) rfl) h (FnC.len_list (by omega)) Keeps?.builtin hs

/-! ### Levenshtein's rows -/
def cellStep (eq : Nat → Bool) (prev cur : List Int) (c : Nat) : List Int :=
  cur.set c (min (min (prev.getD (c - 1) 0 + (if eq (c - 1) then 0 else 1)) (prev.getD c 0 + 1)) (cur.getD (c - 1) 0 + 1))
def rowFrom (eq : Nat → Bool) (prev : List Int) (r : Int) (n : Nat) : Nat → List Int
  | 0 => r :: List.replicate n 0
  | k + 1 => cellStep eq prev (rowFrom eq prev r n k) (k + 1)
def levRow (eq : Nat → Nat → Bool) (n : Nat) : Nat → List Int
  | 0 => (List.range (n + 1)).map fun (i : Nat) => (i : Int)
  | r + 1 => rowFrom (eq r) (levRow eq n r) ((r : Int) + 1) n n
theorem rowFrom_len (eq : Nat → Bool) (prev : List Int) (r : Int) (n : Nat) : ∀ k, (rowFrom eq prev r n k).length = n + 1
  | 0 => by simp [rowFrom]
  | k + 1 => by simp [rowFrom, cellStep, rowFrom_len eq prev r n k]
theorem levRow_len (eq : Nat → Nat → Bool) (n : Nat) : ∀ k, (levRow eq n k).length = n + 1
  | 0 => by simp [levRow]
  | k + 1 => by rw [levRow]; exact rowFrom_len ..

/-- what is compared element by element -/
def SeqOk (xs ys : List PyData) : Prop := ∀ x ∈ xs, ∀ y ∈ ys, Elt x ∧ Elt y ∧ Mate x y
def eqAt (xs ys : List PyData) (i j : Nat) : Bool := PyData.eqv (xs.getD i .none) (ys.getD j .none)
def levD (xs ys : List PyData) : Int := (levRow (eqAt xs ys) ys.length xs.length).getD ys.length 0

theorem no_test {C : Addr} (hC : C = 173 ∨ C = 214 ∨ C = 255) : ∀ P, findIn (KG P) (.ref C) "test_func" = some none := by
  rcases hC with rfl | rfl | rfl <;> exact fun _ => by rfl

theorem VL.ints {h : Heap} {vs : List Value} {is : List Int} (x : VL h vs ((is.map PyData.int).map .py)) : ∀ h', VL h' vs ((is.map PyData.int).map .py) := by
  intro h'
  induction is generalizing vs with
  | nil => cases x; exact .nil
  | cons i is ih =>
    cases x with
    | cons p q =>
      obtain ⟨t, rfl⟩ := p.int_inv
      exact .cons V.int (ih q)
theorem VL.setD {h : Heap} : ∀ {vs ds} {k : Nat} {v : Value} {d : D}, VL h vs ds → V h v d → VL h (vs.set k v) (ds.set k d)
  | _, _, _, _, _, .nil, _ => .nil
  | _, _, 0, _, _, .cons _ b, hv => .cons hv b
  | _, _, k + 1, _, _, .cons a b, hv => .cons a (VL.setD b hv)

theorem rngD_from {a : Nat} {b : Int} {i : Nat} {d : D} (h : (rngD a b)[i]? = some d) : (a : Int) + i < b ∧ d = .py (.int ((a : Int) + i)) := by
  simp only [rngD, rng, List.getElem?_map, Option.map_eq_some_iff] at h
  obtain ⟨x, ⟨j, hj, rfl⟩, rfl⟩ := h
  have hi := (List.getElem?_eq_some_iff.mp hj).1
  simp at hi
  have : j = i := by
    have := (List.getElem?_eq_some_iff.mp hj).2
    simpa using this.symm
  subst this
  exact ⟨by omega, rfl⟩
theorem rngD_length {a b : Int} : (rngD a b).length = (b - a).toNat := by simp [rngD, rng]

section
variable {w : World} {n : Nat} {A : Around} {l : List Env} {s₀ : Shared} {hb₀ : Heap} {L C : Addr} {attrs : List (Str × D)} {xs ys : List PyData}
theorem b_cycled (hC : C = 173 ∨ C = 214 ∨ C = 255) (ht : attrs.lookup ("test_func" : Str) = some (.raw (.ref 100))) (hok : SeqOk xs ys) (l1 : xs.length < 1000) (l2 : ys.length < 1000) (hx : 0 < xs.length) :
    SB (fctx w (n + 1) A l s₀ hb₀ fd_204 L 204 (Gd w)) (rho [("self", IV C attrs), ("s1", .py (.list xs)), ("s2", .py (.list ys))] ρ0) [] (dBody d_lev_cycled) (fun o => o = .ret (.py (.int (levD xs ys)))) := by
  refine SB.assign (d := .py (.int ((xs.length : Int) + 1))) ?_ ?_ ?_
  · exact EX.bin (EX.lenList (EX.name rfl) rfl l1) EX.int OpX.add_int
  · exact stoL rfl rfl
  refine SB.assign (d := .py (.int ((ys.length : Int) + 1))) ?_ ?_ ?_
  · exact EX.bin (EX.lenList (EX.name rfl) rfl l2) EX.int OpX.add_int
  · exact stoL rfl rfl
  refine SB.assign (d := .py .none) ?_ ?_ ?_
  · exact EX.noneX
  · exact stoL rfl rfl
  refine SB.assign (d := .py (.list ((levRow (eqAt xs ys) ys.length 0).map .int))) ?_ ?_ ?_
  · refine EX.conv (TX.callName (EX.builtin rfl (fun _ => by rfl) rfl) (.plain (.cons (d := .sat (RgV 0 ((ys.length : Int) + 1))) ?_ .nil)) (FnC.list_range (b := ys.length + 1) (by omega)) (Nat.zero_le _) (fun _ _ g => g) Keeps?.type) ?_
    · refine TX.sat (F := RgV 0 ((ys.length : Int) + 1)) ?_ fun _ _ k _ x => x.up k
      exact TX.callName (EX.builtin rfl (fun _ => by rfl) rfl) (.plain (.cons (EX.name (d := .py (.int ((ys.length : Int) + 1))) rfl) .nil)) FnC.range1 (Nat.zero_le _) (fun _ _ g => g) Keeps?.type
    · simp [levRow]
  · exact stoL rfl rfl
  refine SB.for (ds := rngD 1 ((xs.length : Int) + 1)) (Inv := fun i ρ O => O = [] ∧ ρ "self" = some (IV C attrs) ∧ ρ "s1" = some (.py (.list xs)) ∧ ρ "s2" = some (.py (.list ys)) ∧ ρ "cols" = some (.py (.int ((ys.length : Int) + 1))) ∧
    ρ "cur" = some (.py (.list ((levRow (eqAt xs ys) ys.length i).map .int)))) ?_ ?_ ?_ ?_ ?_
  · rw [rngD_length]
    refine IX.range ?_ (by decide) (by decide) (by omega) (by omega)
    exact TX.callName (EX.builtin rfl (fun _ => by rfl) rfl) (.plain (.cons EX.int (.cons (EX.name (d := .py (.int ((xs.length : Int) + 1))) rfl) .nil))) FnC.range2 (Nat.zero_le _) (fun _ _ g => g) Keeps?.type
  · exact stoL rfl rfl
  · exact ⟨rfl, rfl, rfl, rfl, rfl, rfl⟩
  · rintro r d ρ' O' W hd ⟨rfl, i1, i2, i3, i4, i5⟩
    obtain ⟨hr, rfl⟩ := rngD_from (a := 1) hd
    refine SB.swapOwn (xs := (rowFrom (eqAt xs ys r) (levRow (eqAt xs ys) ys.length r) ((r : Int) + 1) ys.length 0).map .int) (d₁ := .py (.list ((levRow (eqAt xs ys) ys.length r).map .int))) ?_ ?_ ?_ ?_ (fun h vs x h' => x.ints h') fun a vs hvs => ?_
    · exact EX.name i5
    · refine FX.conv (FX.addList (xs := [.int ((1 : Nat) + (r : Int))]) (ys := (List.replicate ((ys.length : Int) + 1 - 1).toNat [PyData.int 0]).flatten) ?_ ?_ (by simp [sizeLine_eq]; omega)) ?_
      · exact EX.listDisp (.cons (EX.name rfl) .nil) (by simp)
      · refine EX.bin (EX.listDisp (xs := [.int 0]) (.cons EX.int .nil) (by simp)) (EX.bin (EX.name (d := .py (.int ((ys.length : Int) + 1))) i4) EX.int OpX.sub_int) (OpX.mul_list (by omega) (by omega) (by simp; omega))
      · have e2 : ((ys.length : Int) + 1 - 1).toNat = ys.length := by omega
        rw [e2]
        simp [rowFrom]
        omega
    · exact stoL rfl rfl
    · exact stoL rfl rfl
    refine SB.for (ds := rngD 1 ((ys.length : Int) + 1)) (Inv := fun i ρ O => ∃ vs, O = [mutOwn a vs, W] ∧ (∀ h, VL h vs (((rowFrom (eqAt xs ys r) (levRow (eqAt xs ys) ys.length r) ((r : Int) + 1) ys.length i).map PyData.int).map .py)) ∧ ρ "self" = some (IV C attrs) ∧ ρ "s1" = some (.py (.list xs)) ∧ ρ "s2" = some (.py (.list ys)) ∧ ρ "cols" = some (.py (.int ((ys.length : Int) + 1))) ∧
      ρ "r" = some (.py (.int ((r : Int) + 1))) ∧ ρ "prev" = some (.py (.list ((levRow (eqAt xs ys) ys.length r).map .int))) ∧ ρ "cur" = some (.raw (.ref a))) ?_ ?_ ?_ ?_ ?_
    · rw [rngD_length]
      refine IX.range ?_ (by decide) (by decide) (by omega) (by omega)
      exact TX.callName (EX.builtin rfl (fun _ => by rfl) rfl) (.plain (.cons EX.int (.cons (EX.name (d := .py (.int ((ys.length : Int) + 1))) i4) .nil))) FnC.range2 (Nat.zero_le _) (fun _ _ g => g) Keeps?.type
    · exact stoL rfl rfl
    · refine ⟨vs, rfl, hvs, i1, i2, i3, i4, ?_, rfl, rfl⟩
      show some (D.py (.int (((1 : Nat) : Int) + (r : Int)))) = _
      rw [show ((1 : Nat) : Int) + (r : Int) = (r : Int) + 1 from by omega]
    · rintro j d ρ'' O'' W' hd' ⟨vs', rfl, hv', j1, j2, j3, j4, j5, j6, j7⟩
      obtain ⟨hj, rfl⟩ := rngD_from (a := 1) hd'
      have hj' : j < ys.length := by omega
      have hr' : r < xs.length := by omega
      have hpl := levRow_len (eqAt xs ys) ys.length r
      have hcl := rowFrom_len (eqAt xs ys r) (levRow (eqAt xs ys) ys.length r) ((r : Int) + 1) ys.length j
      have hvl : vs'.length = ys.length + 1 := by have := (hv' {}).length; rw [this, List.length_map, List.length_map, hcl]
      have gp : ∀ k : Nat, k < ys.length + 1 → ((levRow (eqAt xs ys) ys.length r).map PyData.int)[k]? = some (.int ((levRow (eqAt xs ys) ys.length r).getD k 0)) := fun k hk => by
        have : k < (levRow (eqAt xs ys) ys.length r).length := by omega
        simp [List.getD, this]
      have tn : ∀ k : Nat, ((1 : Nat) + (k : Int)).toNat = k + 1 := fun k => by omega
      have tm : ∀ k : Nat, ((1 : Nat) + (k : Int) - 1).toNat = k := fun k => by omega
      refine SB.assign (d := .py (.int ((levRow (eqAt xs ys) ys.length r).getD (j + 1) 0 + 1))) ?_ (stoL rfl rfl) ?_
      · refine EX.bin (EX.sub (EX.name j6) (EX.name rfl) (GiX.list (by omega) (by omega) ?_) PySem.F.slot_list_getitem.lookup) EX.int OpX.add_int
        rw [tn]; exact gp _ (by omega)
      have gc : ∃ v, vs'[j]? = some v ∧ ∀ h, V h v (.py (.int ((rowFrom (eqAt xs ys r) (levRow (eqAt xs ys) ys.length r) ((r : Int) + 1) ys.length j).getD j 0))) := by
        have hjl : j < vs'.length := by omega
        refine ⟨vs'[j], by simp [hjl], fun h => ?_⟩
        obtain ⟨v, e1, e2⟩ := (hv' h).get (i := j) (d := .py (.int ((rowFrom (eqAt xs ys r) (levRow (eqAt xs ys) ys.length r) ((r : Int) + 1) ys.length j).getD j 0))) (by
          have : j < (rowFrom (eqAt xs ys r) (levRow (eqAt xs ys) ys.length r) ((r : Int) + 1) ys.length j).length := by omega
          simp [List.getD, this])
        rw [List.getElem?_eq_getElem hjl] at e1; cases e1
        exact e2
      obtain ⟨vj, gv1, gv2⟩ := gc
      refine SB.assign (d := .py (.int ((rowFrom (eqAt xs ys r) (levRow (eqAt xs ys) ys.length r) ((r : Int) + 1) ys.length j).getD j 0 + 1))) ?_ (stoL rfl rfl) ?_
      · refine EX.bin (EX.ownItem (a := a) (vs := vs') (EX.name j7) (EX.bin (EX.name rfl) EX.int OpX.sub_int) (by simp) (by omega) (by omega) (v := vj) (by rw [tm]; exact gv1) gv2) EX.int OpX.add_int
      refine SB.assign (d := .py (.bool (eqAt xs ys r j))) ?_ (stoL rfl rfl) ?_
      · have hxe : xs[r]? = some (xs.getD r .none) := by simp [List.getD, hr']
        have hye : ys[j]? = some (ys.getD j .none) := by simp [List.getD, hj']
        obtain ⟨o1, o2, o3⟩ := hok _ (List.mem_of_getElem? hxe) _ (List.mem_of_getElem? hye)
        refine TX.methOwn (EX.name j1) (clsOk hC) ht (no_test hC) (.plain (.cons (d := .py (xs.getD r .none)) ?_ (.cons (d := .py (ys.getD j .none)) ?_ .nil))) (c_ident (n := 0) o1 o2 o3).fn (isFn_100.keeps fun _ h => h) (by show 1 ≤ n + 1; omega)
        · refine EX.sub (EX.name j2) (EX.bin (EX.name j5) EX.int OpX.sub_int) (GiX.list (by omega) (by omega) ?_) PySem.F.slot_list_getitem.lookup
          rw [show ((r : Int) + 1 - 1).toNat = r from by omega]; exact hxe
        · refine EX.sub (EX.name j3) (EX.bin (EX.name rfl) EX.int OpX.sub_int) (GiX.list (by omega) (by omega) ?_) PySem.F.slot_list_getitem.lookup
          rw [tm]; exact hye
      refine SB.assign (d := .py (.int ((levRow (eqAt xs ys) ys.length r).getD j 0 + if (!eqAt xs ys r j) then 1 else 0))) ?_ (stoL rfl rfl) ?_
      · refine EX.bin (EX.sub (EX.name j6) (EX.bin (EX.name rfl) EX.int OpX.sub_int) (GiX.list (by omega) (by omega) ?_) PySem.F.slot_list_getitem.lookup) (EX.notX (EX.name rfl) TrX.bool) OpX.add_bool
        rw [tm]; exact gp _ (by omega)
      refine SB.perm (O := mutOwn a vs' :: W' :: [W]) (.swap ..) ?_
      refine SX.seq (SX.setItem (d := .int (min (min ((levRow (eqAt xs ys) ys.length r).getD j 0 + if (!eqAt xs ys r j) then 1 else 0) ((levRow (eqAt xs ys) ys.length r).getD (j + 1) 0 + 1)) ((rowFrom (eqAt xs ys r) (levRow (eqAt xs ys) ys.length r) ((r : Int) + 1) ys.length j).getD j 0 + 1)))
        (k := ((1 : Nat) : Int) + (j : Int)) ?_ ?_ ?_ (by omega) (by omega) (by rw [tn]; omega) .int fun v hv => ?_)
      · exact TX.callName (EX.builtin rfl (fun _ => by rfl) rfl) (.plain (.cons (EX.name rfl) (.cons (EX.name rfl) (.cons (EX.name rfl) .nil)))) FnC.min3 (Nat.zero_le _) (fun _ _ g => g) Keeps?.builtin
      · exact EX.name j7
      · exact EX.name rfl
      · refine SB.perm (O := W' :: mutOwn a (vs'.set (((1 : Nat) : Int) + (j : Int)).toNat v) :: [W]) (.swap ..) (SB.nil ⟨_, rfl, _, rfl, fun h => ?_, j1, j2, j3, j4, j5, j6, j7⟩)
        have := (hv' h).setD (k := j + 1) (hv h)
        rw [tn]
        rw [rowFrom, cellStep]
        simp only [List.map_set]
        simp only [Nat.add_sub_cancel]
        have e : (if (!eqAt xs ys r j) = true then (1 : Int) else 0) = if eqAt xs ys r j = true then 0 else 1 := by cases eqAt xs ys r j <;> rfl
        rw [e] at this
        exact this
    · rintro ρ'' O'' ⟨vs', rfl, hv', j1, j2, j3, j4, j5, j6, j7⟩
      refine SB.freeze (xs := (levRow (eqAt xs ys) ys.length (r + 1)).map .int) j7 ?_ (SB.nil ?_)
      · intro h
        have e : (rngD 1 ((ys.length : Int) + 1)).length = ys.length := by rw [rngD_length]; omega
        rw [e] at hv'
        exact hv' h
      · exact ⟨[], rfl, rfl, j1, j2, j3, j4, rfl⟩
  · rintro ρ' O' ⟨rfl, i1, i2, i3, i4, i5⟩
    refine SB.ret (d := .py (.int (levD xs ys))) ?_ rfl
    refine EX.call1 (EX.builtin rfl (fun _ => by rfl) rfl) (EX.sub (EX.name i5) EX.neg1 (GiX.list_last (d := .int (levD xs ys)) ?_ ?_) PySem.F.slot_list_getitem.lookup) FnC.int_int Keeps?.type
    · rw [List.length_map, levRow_len]; omega
    · have e : (rngD 1 ((xs.length : Int) + 1)).length = xs.length := by rw [rngD_length]; omega
      rw [e, List.getLast?_eq_getElem?, List.length_map, levRow_len, List.getElem?_map]
      have hl : ys.length < (levRow (eqAt xs ys) ys.length xs.length).length := by rw [levRow_len]; omega
      simp [levD, List.getD, hl]
end
end Mine
end

/-! ## C7 -/
section
set_option maxRecDepth 100000
namespace Mine

section
variable {w : World} {n : Nat} {C : Addr} {attrs : List (Str × D)} {xs ys : List PyData}
theorem c_cycled (hC : C = 173 ∨ C = 214 ∨ C = 255) (ht : attrs.lookup ("test_func" : Str) = some (.raw (.ref 100))) (hok : SeqOk xs ys) (l1 : xs.length < 1000) (l2 : ys.length < 1000) (hx : 0 < xs.length) :
    CoC w (.ref 204) (n + 2) (Gd w) [IV C attrs, .py (.list xs), .py (.list ys)] [] (fun h v => V h v (.py (.int (levD xs ys)))) := by
  refine CoC.def isFn_204 (fun _ h => h) (fun _ _ k g => g.up k) (bs := [("self", IV C attrs), ("s1", .py (.list xs)), ("s2", .py (.list ys))]) (K := fun o => o = .ret (.py (.int (levD xs ys)))) ?_ ?_ (fun A l s₀ hb₀ L => b_cycled hC ht hok l1 l2 hx) ?_
  · intro x hx
    simp only [List.mem_cons, List.not_mem_nil, or_false] at hx
    rcases hx with rfl | rfl | rfl <;> exact .inl (by rfl)
  · exact fun A l s hb B hP a ha E => three_binds B ha (fun _ _ _ => by rfl) E
  · rintro o rfl
    exact .inl ⟨_, rfl, fun h v x => x⟩
end
end Mine
end

/-! ## C8 -/
section
set_option maxRecDepth 100000
namespace Mine

section
variable {c : Ctx} {ρ ρ' : Rho} {O O' : List Own} {hb hb' : Heap} {s s' : Shared}
theorem CmX.isNotNone_int {i : Int} : CmX .IsNot (.py (.int i)) (.py .none) true := by
  intro c ρ O s hb v₁ v₂ S h₁ h₂ E Q hQ
  obtain ⟨t, rfl⟩ := h₁.int_inv; obtain rfl := h₂.none_inv
  exact isNot_none hQ
theorem CmX.isNotNone_none : CmX .IsNot (.py .none) (.py .none) false := by
  intro c ρ O s hb v₁ v₂ S h₁ h₂ E Q hQ
  obtain rfl := h₁.none_inv; obtain rfl := h₂.none_inv
  exact isNot_none hQ
theorem FnC.isInt {w : World} {n : Nat} {P : Heap → Prop} {i : Int} : FnC w (.builtin "isinstance") n P [.py (.int i), .raw (.type "int")] [] (fun h v => V h v (.py (.bool true))) := by
  intro A l s hb R B hP a ha E
  obtain ⟨v, u, rfl, hv, hu⟩ := ha.two
  obtain ⟨t, rfl⟩ := hv.int_inv
  cases hu
  exact IsiPair.int_int ⟨hb, .refl B, V.bool⟩
theorem SB.assertTrue {t : Expr} {pos : Pos} {rest : List Stmt} {K : Out → Prop} (ht : TR c ρ O t true) (h : SB c ρ O rest K) : SB c ρ O (.Assert t none pos :: rest) K := by
  intro s hb S E
  refine wpAny_execs_cons (wpAny_Assert S.ok.room.han (wpx S ht fun v s₁ hb₁ x₁ S₁ r₁ => ?_))
  subst r₁
  simp only [if_true]
  exact SX.up h S₁ x₁.le E
theorem EX.listSeq {e : Expr} {x y : PyData} (h : EX c ρ O e (.py (.list [x, y]))) : EX c ρ O e (.sat (SeqV "list" [.py x, .py y])) :=
  h.mono fun hb v r => V.seq (SeqV.of_list r)
end

/-- the answer, by what stands behind -/
def ansD (xs ys : List PyData) (f : Int) : Int :=
  if PyData.eqv (.list xs) (.list ys) then 0 else if !xs.isEmpty && !ys.isEmpty then f else (max xs.length ys.length : Nat)

theorem find_get {C : Addr} (hC : C = 173 ∨ C = 214 ∨ C = 255) : ∀ P, findIn (KG P) (.ref C) "_get_sequences" = some (some (.ref 108)) := by
  rcases hC with rfl | rfl | rfl <;> exact fun _ => by rfl
theorem find_quick {C : Addr} (hC : C = 173 ∨ C = 214 ∨ C = 255) : ∀ P, findIn (KG P) (.ref C) "quick_answer" = some (some (.ref 93)) := by
  rcases hC with rfl | rfl | rfl <;> exact fun _ => by rfl

structure Fit (xs ys : List PyData) : Prop where
  ok : SeqOk xs ys
  s1 : PySem.SeqAt.shaped (.list xs) = true
  s2 : PySem.SeqAt.shaped (.list ys) = true
  l1 : xs.length < 1000
  l2 : ys.length < 1000

section
variable {w : World} {n : Nat} {A : Around} {l : List Env} {s₀ : Shared} {hb₀ : Heap} {L : Addr} {attrs : List (Str × D)} {dx dy : PyData} {xs ys : List PyData}
theorem b_lev_call (F : Fit xs ys) (ht : attrs.lookup ("test_func" : Str) = some (.raw (.ref 100))) (hn0 : attrs.lookup ("_get_sequences" : Str) = none) (hn1 : attrs.lookup ("_ident" : Str) = none) (hn2 : attrs.lookup ("maximum" : Str) = none) (hn3 : attrs.lookup ("quick_answer" : Str) = none) (hn4 : attrs.lookup ("_cycled" : Str) = none)
    (hG : CoC w (.ref 108) 3 (Gd w) [IV 214 attrs, .py dx, .py dy] [] (fun h v => V h v (.py (.list [.list xs, .list ys])))) :
    SB (fctx w (n + 3) A l s₀ hb₀ fd_211 L 211 (Gd w)) (rho [("self", IV 214 attrs), ("s1", .py dx), ("s2", .py dy)] ρ0) [] (dBody d_lev_call) (fun o => o = .ret (.py (.int (ansD xs ys (levD xs ys))))) := by
  have hC : (214 : Addr) = 173 ∨ (214 : Addr) = 214 ∨ (214 : Addr) = 255 := .inr (.inl rfl)
  refine SB.assign2 (T := "list") (d₁ := .py (.list xs)) (d₂ := .py (.list ys)) (.inl rfl) ?_ ?_ ?_ ?_
  · refine EX.listSeq (TX.meth (EX.name (d := IV 214 attrs) rfl) cls_lev hn0 (find_get hC) (fun _ => by rfl) (.plain (.cons (EX.name rfl) (.cons (EX.name rfl) .nil))) hG.fn (isFn_108.keeps fun _ h => h) (by show 3 ≤ n + 3; omega))
  · exact stoL rfl rfl
  · exact stoL rfl rfl
  refine SB.assign (d := .py (quickD xs ys)) ?_ ?_ ?_
  · exact TX.meth (EX.name (d := IV 214 attrs) rfl) cls_lev hn3 (find_quick hC) (fun _ => by rfl) (.plain (.cons (EX.name rfl) (.cons (EX.name rfl) .nil))) (c_quick (n := 0) hC hn1 hn2 F.s1 F.s2 F.l1 F.l2).fn (isFn_93.keeps fun _ h => h) (by show 2 ≤ n + 3; omega)
  · exact stoL rfl rfl
  have hint : ∀ i : Int, quickD xs ys = .int i → ansD xs ys (levD xs ys) = i → SB (fctx w (n + 3) A l s₀ hb₀ fd_211 L 211 (Gd w)) (put (put (put (rho [("self", IV 214 attrs), ("s1", .py dx), ("s2", .py dy)] ρ0) "s1" (.py (.list xs))) "s2" (.py (.list ys))) "result" (.py (quickD xs ys))) [] ((dBody d_lev_call).drop 2) (fun o => o = .ret (.py (.int (ansD xs ys (levD xs ys))))) := by
    intro i hq ha
    rw [hq, ha]
    refine SB.ifTrue (TR.cmp (EX.name rfl) EX.noneX CmX.isNotNone_int) ?_
    refine SB.assertTrue (TR.of (TX.callName (EX.builtin rfl (fun _ => by rfl) rfl) (.plain (.cons (EX.name rfl) (.cons (EX.builtin rfl (fun _ => by rfl) rfl) .nil))) FnC.isInt (Nat.zero_le _) (fun _ _ g => g) Keeps?.builtin) TrX.bool) ?_
    exact SB.ret (EX.name rfl) rfl
  by_cases he : PyData.eqv (.list xs) (.list ys) = true
  · exact hint 0 (by simp [quickD, he]) (by simp [ansD, he])
  · by_cases ha : (!xs.isEmpty && !ys.isEmpty) = true
    · have hq : quickD xs ys = .none := by simp only [quickD, if_neg he, if_pos ha]
      have hd : ansD xs ys (levD xs ys) = levD xs ys := by simp only [ansD, if_neg he, if_pos ha]
      rw [hq, hd]
      refine SB.ifFalse (TR.cmp (EX.name rfl) EX.noneX CmX.isNotNone_none) (SB.skip ?_)
      have hx : 0 < xs.length := by
        cases xs with
        | nil => simp at ha
        | cons => simp
      refine SB.ret (d := .py (.int (levD xs ys))) ?_ rfl
      exact TX.meth (EX.name (d := IV 214 attrs) rfl) cls_lev hn4 (f := 204) (fun _ => by rfl) (fun _ => by rfl) (.plain (.cons (EX.name rfl) (.cons (EX.name rfl) .nil))) (c_cycled (n := 0) hC ht F.ok F.l1 F.l2 hx).fn (isFn_204.keeps fun _ h => h) (by show 2 ≤ n + 3; omega)
    · exact hint (max xs.length ys.length : Nat) (by simp only [quickD, if_neg he, if_neg ha]) (by simp only [ansD, if_neg he, if_neg ha])
end
end Mine
end

/-! ## C9 -/
section
set_option maxRecDepth 100000
namespace Mine

section
variable {c : Ctx} {ρ ρ' : Rho} {O O' : List Own} {hb hb' : Heap} {s s' : Shared}
/-- an object that is called -/
theorem TX.callInst {C f : Addr} {attrs : List (Str × D)} {x : Str} {p pos : Pos} {args : List Expr} {kws : List Keyword} {n : Nat} {ds : List D} {kw : List (Str × D)} {R : Heap → Value → Prop}
    (ho : EX c ρ O (.Name x p) (IV C attrs)) (hs : ∀ P, findIn (KG P) (.ref C) "__call__" = some (some (.ref f))) (hf : ∀ P, W.isFn (KG P) (.ref f) = true) (hfn : ∀ P, fnIn (KG P) f = true)
    (ha : ArgX c ρ O args kws ds kw) (hF : CoC c.w (.ref f) n (Gd c.w) (IV C attrs :: ds) kw R) (hn : n ≤ c.n) : TX c ρ O (eval (.Call (.Name x p) args kws pos) c.env) R := by
  intro s hb S E
  refine wpAny_Call_Name_kw (wpx S ho fun v s₁ hb₁ x₁ S₁ r₁ => ?_)
  obtain ⟨a, dx, es, n', rfl, I, A⟩ := id (r₁.out.at S₁.base.le)
  let P : Heap → Prop := fun h => Gd c.w h ∧ V h (.ref a) (IV C attrs)
  have hfP : FnC c.w (.ref a) n P ds kw R := by
    refine CoC.fn fun A l s hb hR B hP ar har => ?_
    obtain ⟨a', dx', es', n'', hva, I', A'⟩ := hP.2.out.at B.le
    cases hva
    exact kco_code (K := KG c.w.params) (hP.1.frag.keeps B.le) I' rfl (hs _) (hf _) (hfn _) (hF A l s hb hR B hP.1 ⟨.ref a :: ar.pos, ar.kw⟩ ⟨.cons hP.2 har.pos, har.kw⟩)
  have hkP : Keeps? c.w P (.ref a) := by
    intro h hp
    obtain ⟨a', dx', es', n'', hva, I', A'⟩ := hp.2.out.at (h' := h) (fun _ _ e => e)
    cases hva
    exact ⟨_, kco_keeper I' rfl⟩
  exact wpAny_mono (callWith_at (first := []) ha hfP hn (P := P) ⟨S₁.base.gd, r₁⟩ (fun _ _ k g => ⟨g.1.up k, g.2.up k⟩) hkP S₁ .nil) (fun v s₂ ⟨hb₂, x₂, r₂⟩ => ⟨hb₂, x₁.trans S.base x₂, r₂⟩) fun _ _ e => e
end
end Mine
namespace Mine
theorem find_call_lev : ∀ P, findIn (KG P) (.ref 214) "__call__" = some (some (.ref 211)) := fun _ => by rfl
section
variable {w : World} {n : Nat} {C f : Addr} {attrs : List (Str × D)} {dx dy d : PyData}
theorem c_distance (hs : ∀ P, findIn (KG P) (.ref C) "__call__" = some (some (.ref f))) (hf : ∀ P, W.isFn (KG P) (.ref f) = true) (hfn : ∀ P, fnIn (KG P) f = true)
    (hF : CoC w (.ref f) n (Gd w) [IV C attrs, .py dx, .py dy] [] (fun h v => V h v (.py d))) :
    CoC w (.ref 65) (n + 1) (Gd w) [IV C attrs, .py dx, .py dy] [] (fun h v => V h v (.py d)) := by
  refine CoC.def isFn_65 (fun _ h => h) (fun _ _ k g => g.up k) (bs := [("self", IV C attrs), ("sequences", .py (.tuple [dx, dy]))]) (K := fun o => o = .ret (.py d)) ?_ ?_ (fun A l s₀ hb₀ L => ?_) ?_
  · intro x hx
    simp only [List.mem_cons, List.not_mem_nil, or_false] at hx
    rcases hx with rfl | rfl <;> exact .inl (by rfl)
  · exact fun A l s hb B hP a ha E => self_star_binds B ha (fun _ _ _ => by rfl) E
  · refine SB.ret (d := .py d) ?_ rfl
    exact TX.callInst (EX.name (d := IV C attrs) rfl) hs hf hfn (ArgX.lone (EX.name (d := .py (.tuple [dx, dy])) rfl) (.inr rfl)) hF (Nat.le_refl _)
  · rintro o rfl
    exact .inl ⟨_, rfl, fun h v x => x⟩
end

/-- Levenshtein's distance -/
theorem c_lev_call {w : World} {n : Nat} {attrs : List (Str × D)} {dx dy : PyData} {xs ys : List PyData} (F : Fit xs ys) (ht : attrs.lookup ("test_func" : Str) = some (.raw (.ref 100))) (hn0 : attrs.lookup ("_get_sequences" : Str) = none) (hn1 : attrs.lookup ("_ident" : Str) = none) (hn2 : attrs.lookup ("maximum" : Str) = none) (hn3 : attrs.lookup ("quick_answer" : Str) = none) (hn4 : attrs.lookup ("_cycled" : Str) = none)
    (hG : CoC w (.ref 108) 3 (Gd w) [IV 214 attrs, .py dx, .py dy] [] (fun h v => V h v (.py (.list [.list xs, .list ys])))) :
    CoC w (.ref 211) (n + 4) (Gd w) [IV 214 attrs, .py dx, .py dy] [] (fun h v => V h v (.py (.int (ansD xs ys (levD xs ys))))) := by
  refine CoC.def isFn_211 (fun _ h => h) (fun _ _ k g => g.up k) (bs := [("self", IV 214 attrs), ("s1", .py dx), ("s2", .py dy)]) (K := fun o => o = .ret (.py (.int (ansD xs ys (levD xs ys))))) ?_ ?_ (fun A l s₀ hb₀ L => b_lev_call F ht hn0 hn1 hn2 hn3 hn4 hG) ?_
  · intro x hx
    simp only [List.mem_cons, List.not_mem_nil, or_false] at hx
    rcases hx with rfl | rfl | rfl <;> exact .inl (by rfl)
  · exact fun A l s hb B hP a ha E => three_binds B ha (fun _ _ _ => by rfl) E
  · rintro o rfl
    exact .inl ⟨_, rfl, fun h v x => x⟩
end Mine
end

/-! ## F45 -/
section
set_option maxRecDepth 100000
namespace Mine

/-! ### a dict of pairs of numbers -/
abbrev PK (w : World) : HeapKind PW w (List Int) := tupleKind (PySem.intKind PW w)
abbrev Ents := List (List Int × Addr × Value)
def dicOwn (w : World) (d : Addr) (xs : Ents) : Own := ⟨[d], d :: xs.map (·.2.1), fun h => h.DictOfH (PK w) d xs⟩
theorem tupleKey_at {w : World} {h h' : Heap} {ks : List Int} {a : Addr} (x : IsTupleKey (PySem.intKind PW w) h ks a) (k : ∀ o, h.get? a = some o → h'.get? a = some o) : IsTupleKey (PySem.intKind PW w) h' ks a := by
  obtain ⟨o, items, n, ho, r⟩ := x; exact ⟨o, items, n, k o ho, r⟩
theorem dicOwn_ok (w : World) (d : Addr) (xs : Ents) : (dicOwn w d xs).Ok := by
  refine ⟨fun b h => ?_, fun h h' hp k => ?_, fun h hp b hb => ?_⟩
  · rcases List.mem_cons.mp h with rfl | h
    · exact List.mem_cons_self ..
    · cases h
  · obtain ⟨o, es, ep, ho, r1, r2, r3, r4, r5⟩ := hp
    exact ⟨o, es, ep, k d (List.mem_cons_self ..) o ho, r1, r2, r3, fun x hx => tupleKey_at (r4 x hx) fun o e => k _ (List.mem_cons_of_mem _ (List.mem_map_of_mem hx)) o e, r5⟩
  · obtain ⟨o, es, ep, ho, r1, _⟩ := hp
    rcases List.mem_cons.mp hb with rfl | hb
    · exact ⟨o, ho, by rw [r1.1]; decide⟩
    · cases hb

/-- what the dict says -/
def Says (xs : Ents) (m : List Int → Option Int) : Prop := ∀ k i, m k = some i → ∃ a v, atKey xs k = some (a, v) ∧ ∀ h, V h v (.py (.int i))
def upd (m : List Int → Option Int) (k : List Int) (i : Int) : List Int → Option Int := fun k' => if k' = k then some i else m k'

theorem atKey_cons (x : List Int × Addr × Value) (xs : Ents) (k : List Int) : atKey (x :: xs) k = if x.1 = k then some x.2 else atKey xs k := by
  unfold atKey
  rw [List.find?_cons]
  by_cases h : x.1 = k <;> simp [h]
theorem atKey_map {k : List Int} {v : Value} (k' : List Int) : ∀ xs : Ents, atKey (xs.map (putAt k v)) k' = (atKey xs k').map fun p => if k' = k then (p.1, v) else p
  | [] => rfl
  | x :: xs => by
    rw [List.map_cons, atKey_cons, atKey_cons, atKey_map k' xs]
    have e : (putAt k v x).1 = x.1 := by unfold putAt; split <;> rfl
    rw [e]
    by_cases h : x.1 = k'
    · rw [if_pos h, if_pos h]
      by_cases hk : k' = k
      · have : x.1 = k := h.trans hk
        simp [putAt, this, hk]
      · have : ¬ x.1 = k := fun q => hk (h.symm.trans q)
        simp [putAt, this, hk]
    · rw [if_neg h, if_neg h]
theorem atKey_app (k' : List Int) (y : List Int × Addr × Value) : ∀ xs : Ents, atKey (xs ++ [y]) k' = (atKey xs k').or (if y.1 = k' then some y.2 else none)
  | [] => by rw [List.nil_append, atKey_cons]; rfl
  | x :: xs => by
    rw [List.cons_append, atKey_cons, atKey_cons, atKey_app k' y xs]
    by_cases h : x.1 = k' <;> simp [h]
theorem Says.set {xs : Ents} {m : List Int → Option Int} (S : Says xs m) {k : List Int} {a : Addr} {v : Value} {i : Int} (hv : ∀ h, V h v (.py (.int i))) : Says (storedH xs k a v) (upd m k i) := by
  intro k' j hj
  unfold upd at hj
  by_cases hk : k' = k
  · rw [if_pos hk] at hj; cases hj
    subst hk
    unfold storedH
    split
    · rename_i h
      obtain ⟨p, hp⟩ := Option.isSome_iff_exists.mp h
      exact ⟨p.1, v, by rw [atKey_map, hp]; simp, hv⟩
    · rename_i h
      have hn : atKey xs k' = none := by simpa using h
      exact ⟨a, v, by rw [atKey_app, hn]; simp, hv⟩
  · rw [if_neg hk] at hj
    obtain ⟨a', v', h1, h2⟩ := S k' j hj
    refine ⟨a', v', ?_, h2⟩
    unfold storedH
    split
    · rw [atKey_map, h1]; simp [hk]
    · rw [atKey_app, h1]; rfl
theorem stored_len {xs : Ents} {k : List Int} {a : Addr} {v : Value} : (storedH xs k a v).length ≤ xs.length + 1 := by
  unfold storedH; split <;> simp
theorem stored_adr {xs : Ents} {k : List Int} {a : Addr} {v : Value} {b : Addr} (h : b ∈ (storedH xs k a v).map (·.2.1)) : b ∈ xs.map (·.2.1) ∨ b = a := by
  unfold storedH at h
  split at h
  · left
    simp only [List.mem_map] at h ⊢
    obtain ⟨x, ⟨y, hy, rfl⟩, rfl⟩ := h
    refine ⟨y, hy, ?_⟩
    unfold putAt; split <;> rfl
  · simpa using h

theorem tup_int_key {w : World} {hb h : Heap} {v : Value} {is : List Int} (hv : V hb v (.py (.tuple (is.map .int)))) (hle : Le hb h) : ∃ a, v = .ref a ∧ IsTupleKey (PySem.intKind PW w) h is a ∧ ∃ o, hb.get? a = some o := by
  obtain ⟨a, o, vs, n, rfl, g1, g2, g3, g4⟩ := hv.tuple_inv
  refine ⟨a, rfl, ⟨o, vs, n, hle _ _ g1, g2, g3, ?_⟩, o, g1⟩
  clear g1 g2 g3 hv
  generalize vs.toList = us at g4
  induction is generalizing us with
  | nil => cases g4; exact .nil
  | cons i is ih =>
    cases g4 with
    | cons p q =>
      obtain ⟨t, rfl⟩ := p.int_inv
      exact .cons (show Value.isInt i (.int i t) = true by simp [Value.isInt]) (ih _ q)

section
variable {c : Ctx} {ρ ρ' : Rho} {O O' : List Own} {hb hb' : Heap} {s s' : Shared}
theorem EX.dictGet {value slice : Expr} {pos : Pos} {d : Addr} {xs : Ents} {m : List Int → Option Int} {k : List Int} {i : Int} (h₁ : EX c ρ O value (.raw (.ref d))) (h₂ : EX c ρ O slice (.py (.tuple (k.map .int)))) (hm : dicOwn c.w d xs ∈ O) (S : Says xs m) (hk : m k = some i) :
    EX c ρ O (.Subscript value slice pos) (.py (.int i)) := by
  intro s hb S₀ E
  refine sub_gen PySem.F.slot_dict_getitem.lookup (wpx S₀ h₁ fun v₁ s₁ hb₁ x₁ S₁ r₁ => wpx S₁ h₂ fun v₂ s₂ hb₂ x₂ S₂ r₂ => ?_)
  cases r₁
  obtain ⟨a, rfl, hkey, _⟩ := tup_int_key (w := c.w) r₂ S₂.base.le
  obtain ⟨_, hp, _⟩ := S₂.own _ hm
  have hp' : s₂.heap.DictOfH (PK c.w) d xs := hp
  obtain ⟨a', v, e1, e2⟩ := S k i hk
  refine ⟨hp'.typeIs, wpAny_getItem_heap (knd := PK c.w) ?_ hkey hp' e1 ⟨hb₂, (x₁.trans S₀.base x₂).trans S₀.base (S₂.tok _), e2 _⟩⟩
  have := S₂.ok.room.un
  show c.A.units + 1 < cLine
  omega

theorem SX.dictSet {o i value : Expr} {pos' pos : Pos} {d : Addr} {xs : Ents} {m : List Int → Option Int} {k : List Int} {j : Int} {K : Out → Prop} (hv : EX c ρ (dicOwn c.w d xs :: O) value (.py (.int j))) (ho : EX c ρ (dicOwn c.w d xs :: O) o (.raw (.ref d))) (hi : EX c ρ (dicOwn c.w d xs :: O) i (.py (.tuple (k.map .int)))) (hsz : xs.length ≤ 10000000)
    (S : Says xs m) (hK : ∀ xs', Says xs' (upd m k j) → xs'.length ≤ xs.length + 1 → K (.next ρ (dicOwn c.w d xs' :: O)))
    (hs : swapsWith value (some (.Subscript o i pos')) pos.line c.env = Pure.pure false := by rfl) : SX c ρ (dicOwn c.w d xs :: O) (exec (.Assign [.Subscript o i pos'] value pos) c.env) K := by
  intro s hb S₀ E
  refine wpAny_Assign_Subscript (wpx S₀ hv fun v s₁ hb₁ x₁ S₁ r₁ => wpx S₁ ho fun ov s₂ hb₂ x₂ S₂ r₂ => wpx S₂ hi fun iv s₃ hb₃ x₃ S₃ r₃ => ?_) hs
  cases r₂
  obtain ⟨a, rfl, hkey, oa, hoa⟩ := tup_int_key (w := c.w) r₃ S₃.base.le
  obtain ⟨k1, k2, k3, k4⟩ := S₃.own _ (List.mem_cons_self ..)
  refine wpAny_setItem_heap (knd := PK c.w) (by have := S₃.ok.room.un; show c.A.units + 1 < cLine; omega) hkey k2 (fun h' hd hs' => ?_) (by rw [sizeLine_eq]; omega)
  have hr : ∀ h, V h v (.py (.int j)) := by obtain ⟨t, rfl⟩ := r₁.int_inv; exact fun _ => V.int
  have S₄ : St c ρ (dicOwn c.w d (storedH xs k a v) :: O) hb₃ { s₃ with heap := h', toks := s₃.toks + (PK c.w).draws k } :=
    S₃.write_own (o₂ := dicOwn c.w d (storedH xs k a v)) _ (fun b o hb e => hs'.extBut b o (fun q => hb (q ▸ List.mem_cons_self ..)) e) rfl gid (dicOwn_ok ..) hd (fun b h => h) fun b h => by
      rcases List.mem_cons.mp h with rfl | h
      · exact .inl (List.mem_cons_self ..)
      · rcases stored_adr h with h | rfl
        · rcases k3 b (List.mem_cons_of_mem _ h) with h' | h'
          · exact .inl h'
          · exact .inr h'
        · exact .inr ⟨oa, hoa⟩
  exact ⟨_, hb₃, hK _ (S.set hr) stored_len, fun b o e => x₃.le b o (x₂.le b o (x₁.le b o e)), S₄⟩
end
end Mine
end

/-! ## F46 -/
section
set_option maxRecDepth 100000
namespace Mine

/-! ### loops whose turn names several things -/
def puts : List Str → List D → Rho → Rho
  | x :: xs, d :: ds, ρ => puts xs ds (put ρ x d)
  | _, _, ρ => ρ
inductive AsgOk (c : Ctx) : List Expr → List Str → Prop
  | nil : AsgOk c [] []
  | cons {x p es xs} (h : Sto c x) (hs : AsgOk c es xs) : AsgOk c (.Name x p :: es) (x :: xs)
theorem AsgOk.len {c : Ctx} {es : List Expr} {xs : List Str} (h : AsgOk c es xs) (env : Env) : (assignEach es env).length = xs.length ∧ (assignEach es env).findIdx? (·.1) = none := by
  induction h with
  | nil => exact ⟨rfl, rfl⟩
  | cons h hs ih =>
    rename_i x p es xs
    have e : assignEach (.Name x p :: es) env = (false, assign (.Name x p) env) :: assignEach es env := rfl
    rw [e]
    refine ⟨by simp [ih.1], ?_⟩
    rw [List.findIdx?_cons]
    simp [ih.2]
theorem AsgOk.wp {c : Ctx} {es : List Expr} {xs : List Str} (h : AsgOk c es xs) {O : List Own} {hb : Heap} {E : Value → Shared → Prop} : ∀ {ρ : Rho} {s : Shared} {vs : List Value} {ds : List D}, VL hb vs ds → ds.length = xs.length → St c ρ O hb s →
    wpAny (MM c.w) c.A (assignInOrder ((assignEach es c.env).map (·.2)) vs) (fun _ s' => St c (puts xs ds ρ) O hb s') E s := by
  induction h with
  | nil =>
    intro ρ s vs ds hv hl S
    cases hv with
    | nil => exact wpAny_pure S
    | cons => simp at hl
  | cons h hs ih =>
    intro ρ s vs ds hv hl S
    cases hv with
    | nil => simp at hl
    | cons a b =>
      rename_i x p es xs v vs d ds
      have e : assignEach (.Name x p :: es) c.env = (false, assign (.Name x p) c.env) :: assignEach es c.env := rfl
      rw [e, List.map_cons]
      show wpAny _ _ (holding vs (assign (.Name x p) c.env v) >>= fun _ => assignInOrder _ vs) _ _ _
      refine wpAny_bind (wpAny_holding (wpAny_mono (S.assignName h a) (fun _ s' S' => ?_) fun _ _ e => e))
      exact ih b (by simpa using hl) S'

structure ItT (w : World) (I : Value) (n : Nat) (hbI : Heap) (W : Nat → Own) (rows : Nat → List D) : Prop where
  step : ∀ c : Ctx, c.w = w → ∀ i s hb ρ O, i < n → Le hbI hb → St c ρ (W i :: O) hb s → ∀ E, wpAny (MM w) c.A (pyNext I) (fun r s' => ∃ T, r = some (.ref T) ∧
    ∀ elts k p E' (Q : Unit → Shared → Prop), (∀ s'' hb', Le hb hb' → St c ρ (W (i + 1) :: O) hb' s'' → SeqV "tuple" (rows i) hb' (.ref T) → Q () s'') →
      wpAny (MM w) c.A (letOwnedTupleGo (.Tuple elts k p) I (.ref T)) Q E' s') E s
  done : ∀ c : Ctx, c.w = w → ∀ s hb ρ O, Le hbI hb → St c ρ (W n :: O) hb s → ∀ E, wpAny (MM w) c.A (pyNext I) (fun r s' => ∃ hb', r = none ∧ Le hb hb' ∧ St c ρ O hb' s') E s

/-- what is iterated, in rows -/
def IXT (c : Ctx) (ρ : Rho) (O : List Own) (t : Sem Value) (n : Nat) (rows : Nat → List D) : Prop :=
  ∀ s hb, St c ρ O hb s → ∀ E, wpAny (MM c.w) c.A t (fun x s₁ => wpAny (MM c.w) c.A (pyIter x) (fun it s₂ => ∃ hb' W, Ext c.l s hb s₂ hb' ∧ ItT c.w it n hb' W rows ∧
    (∀ i, (W i).Ok) ∧ (W 0).p s₂.heap ∧ (∀ b ∈ (W 0).fp, b ∈ (W 0).wr ∨ ∃ ob, hb'.get? b = some ob) ∧ ∀ b ∈ (W 0).wr, s.heap.get? b = none ∧ hb'.get? b = none) E s₁) E s

theorem ItT.of_walksT {w : World} {I : Addr} {n : Nat} {hbI : Heap} {fp wr : List Addr} {Pt : Nat → Array Value → Prop} {S : Nat → Heap → Prop} {Mid : Nat → Addr → Heap → Prop} {rows : Nat → List D}
    (W : ∀ A : Around, A.handled = none → WalksT PW w A I fp wr n Pt S Mid) (hP : ∀ i vs hb, i < n → Le hbI hb → Pt i vs → VL hb vs.toList (rows i))
    (hlive : ∀ i h, S i h → ∀ b ∈ wr, ∃ ob, h.get? b = some ob ∧ ob.cls ≠ .type "code") : (∀ i, (ownW wr fp S i).Ok) ∧ ItT w (.ref I) n hbI (ownW wr fp S) rows := by
  have W0 := W {} rfl
  have hok : ∀ i, (ownW wr fp S i).Ok := fun i => ⟨W0.sub, fun h h' hp k => W0.frame i h h' hp k, fun h hp b hb => hlive i h hp b hb⟩
  refine ⟨hok, ⟨fun c hc i s hb ρ O hi hle S₁ E => ?_, fun c hc s hb ρ O hle S₁ E => ?_⟩⟩
  · obtain ⟨k1, k2, k3, k4⟩ := S₁.own _ (List.mem_cons_self ..)
    refine (W c.A S₁.ok.room.han).item i s _ E hi k2 fun T vals h' tk hPt hT hTu hM hk => ⟨T, rfl, fun elts k p E' Q hQ => ?_⟩
    refine (W c.A S₁.ok.room.han).go elts k p i T _ Q E' hM fun h'' hS hk'' => ?_
    have S₂ : St c ρ (ownW wr fp S (i + 1) :: O) hb { s with heap := h'', toks := tk } :=
      S₁.write_own (o₂ := ownW wr fp S (i + 1)) _ (fun b o hb e => hk'' b o hb (hk b o hb e)) rfl gid (hok _) hS (fun b hb => hb) k3
    obtain ⟨o, hTo, hTc, m, hTd⟩ := hTu
    have hTw := (W c.A S₁.ok.room.han).apart i T h' hM
    have hT'' : h''.get? T = some o := hk'' T o hTw hTo
    obtain ⟨S₃, hle₃, hT₃⟩ := St.grow S₁ S₂ (fresh_ge hT) hT'' (fun o ho b hb => by
      rcases List.mem_cons.mp ho with rfl | ho
      · exact ⟨_, List.mem_cons_self .., hb⟩
      · exact ⟨_, List.mem_cons_of_mem _ ho, hb⟩)
    exact hQ _ _ hle₃ S₃ ⟨T, o, vals, m, rfl, hT₃, hTc, hTd, hP i vals _ hi (fun b o e => hle₃ b o (hle b o e)) hPt⟩
  · obtain ⟨k1, k2, k3, k4⟩ := S₁.own _ (List.mem_cons_self ..)
    refine (W c.A S₁.ok.room.han).done s _ E k2 fun h' tk hk => ⟨hb, rfl, fun _ _ e => e, ?_⟩
    have : St c ρ (⟨[], [], fun _ => True⟩ :: O) hb { s with heap := h', toks := tk } :=
      S₁.write_own (o₂ := ⟨[], [], fun _ => True⟩) _ hk rfl gid ⟨fun _ h => h, fun _ _ _ _ => trivial, fun _ _ b h => by cases h⟩ trivial (fun b hb => by cases hb) (fun b hb => by cases hb)
    exact this.drop

theorem ItT.of_itok {w : World} {I : Addr} {n : Nat} {hbI : Heap} {W : Nat → Own} {R : Nat → Heap → Value → Prop} {rows : Nat → List D} (It : ItOk w (.ref I) n hbI W R) (hR : ∀ i hb v, i < n → R i hb v → SeqV "tuple" (rows i) hb v)
    (hgo : ∀ i (s : Shared) elts k p T A (E : Value → Shared → Prop) (Q : Unit → Shared → Prop), (W i).p s.heap → (∀ h', (W i).p h' → (∀ b o, b ∉ (W i).wr → s.heap.get? b = some o → h'.get? b = some o) → Q () { s with heap := h' }) →
      wpAny (MM w) A (letOwnedTupleGo (.Tuple elts k p) (.ref I) (.ref T)) Q E s) : ItT w (.ref I) n hbI W rows := by
  refine ⟨fun c hc i s hb ρ O hi hle S₁ E => ?_, It.done⟩
  refine wpAny_mono (It.step c hc i s hb ρ O hi hle S₁ E) (fun r s' ⟨v, hb', hr, hle', S', hv⟩ => ?_) fun _ _ e => e
  have hV := hR i hb' v hi hv
  obtain ⟨T, o, vs, m, rfl, h1, h2, h3, h4⟩ := id hV
  refine ⟨T, hr, fun elts k p E' Q hQ => ?_⟩
  obtain ⟨k1, k2, k3, k4⟩ := S'.own _ (List.mem_cons_self ..)
  refine hgo (i + 1) s' elts k p T c.A E' Q k2 fun h' hp hk => ?_
  exact hQ _ hb' hle' (S'.write_own (o₂ := W (i + 1)) _ hk rfl gid k1 hp (fun b h => h) k3) hV

section
variable {c : Ctx} {ρ ρ' : Rho} {O O' : List Own} {hb hb' : Heap} {s s' : Shared}
theorem SX.forT {elts : List Expr} {names : List Str} {k : Nat} {pt pos : Pos} {iter : Expr} {body : List Stmt} {n : Nat} {rows : Nat → List D} {K : Out → Prop} {Inv : Nat → Rho → List Own → Prop}
    (hit : IXT c ρ O (eval iter c.env) n rows) (hx : AsgOk c elts names) (hl : ∀ i, i < n → (rows i).length = names.length) (h0 : Inv 0 ρ O)
    (hbody : ∀ i ρ' O' W, i < n → Inv i ρ' O' → SB c (puts names (rows i) ρ') (W :: O') body (Turn Inv i W K)) (hend : ∀ ρ' O', Inv n ρ' O' → K (.next ρ' O'))
    (hs : ∀ x, foldedSetIterable iter c.env x = pure x := by intro _; rfl) :
    SX c ρ O (exec (.For (.Tuple elts k pt) iter body [] pos) c.env) K := by
  intro s hb S E
  refine wpAny_For ?_ hs
  refine wpAny_mono (hit s hb S E) (fun xv s₁ h₁ => wpAny_mono h₁ (fun it s₂ ⟨hb₂, W, X, I, hok, hp0, hfp, hwr⟩ => ?_) fun _ _ e => e) fun _ _ e => e
  have S₂ : St c ρ (W 0 :: O) hb₂ s₂ := St.take S (S.step X) (hok 0) hp0 hfp (fun b h => (hwr b h).1) (fun b h => (hwr b h).2)
  refine codeAny_forLoop_any (fun k s' => ∃ i hb' ρ' O', k = n + 1 - i ∧ i ≤ n ∧ Le hb₂ hb' ∧ Inv i ρ' O' ∧ St c ρ' (W i :: O') hb' s') ?_ (n + 1) ⟨0, hb₂, ρ, O, rfl, Nat.zero_le _, fun _ _ e => e, h0, S₂⟩
  rintro k s' ⟨i, hb', ρ', O', rfl, hi, hle, hinv, S'⟩
  by_cases hlt : i < n
  · refine wpAny_mono (I.step c rfl i s' hb' ρ' _ hlt hle S' _) (fun r s₁ ⟨T, hr, hgo⟩ => ?_) fun _ _ e => e
    subst hr
    dsimp only
    refine hgo elts _ pt _ _ fun s₂ hb₁ hle₁ S₁ hT => ?_
    obtain ⟨T', o, vs, m, hTT, g1, g2, g3, g4⟩ := hT
    cases hTT
    have hlen := g4.length
    have hro := hl i hlt
    rw [Array.length_toList] at hlen
    refine assign_tuple (.inl S₁.ok.room.han) ⟨o, S₁.base.le _ _ g1, g2, m, g3⟩ ((hx.len c.env).1.trans (by omega)) (hx.len c.env).2 fun h₆ tk₆ hl₆ => ?_
    have S₆ := S₁.step (S₁.same (s' := { s₂ with heap := h₆, toks := tk₆ }) ⟨h₆, tk₆, rfl, hl₆⟩)
    refine wpAny_mono (hx.wp g4 hro S₆) (fun _ s₃ S₃ => ?_) fun _ _ e => e
    refine wpAny_mono (hbody i ρ' O' _ hlt hinv _ _ S₃ _) (fun f s₃ ⟨out, hb₃, hK, hle₃, hd₃⟩ => ?_) fun _ _ e => e
    have hle' : Le hb₂ hb₃ := fun b o e => hle₃ b o (hle₁ b o (hle b o e))
    cases out with
    | next ρ'' O'' =>
      obtain ⟨O₁, rfl, hI⟩ := hK
      cases f <;> first | exact hd₃.elim | exact ⟨_, by omega, i + 1, hb₃, ρ'', O₁, rfl, hlt, hle', hI, hd₃⟩
    | cont ρ'' O'' =>
      obtain ⟨O₁, rfl, hI⟩ := hK
      cases f <;> first | exact hd₃.elim | exact ⟨_, by omega, i + 1, hb₃, ρ'', O₁, rfl, hlt, hle', hI, hd₃⟩
    | ret d' =>
      cases f <;> first | exact hd₃.elim | exact ⟨.ret d', hb₃, hK, fun b o e => hle' b o (X.le b o e), hd₃⟩
  · have : i = n := by omega
    subst this
    refine wpAny_mono (I.done c rfl s' hb' ρ' _ hle S' _) (fun r s₁ ⟨hb₁, hr, hle₁, S₁⟩ => ?_) fun _ _ e => e
    subst hr
    refine wpAny_execs_nil ⟨.next ρ' O', hb₁, hend _ _ hinv, fun b o e => hle₁ b o (hle b o (X.le b o e)), S₁⟩
theorem SB.forT {elts : List Expr} {names : List Str} {k : Nat} {pt pos : Pos} {iter : Expr} {body rest : List Stmt} {n : Nat} {rows : Nat → List D} {K : Out → Prop} {Inv : Nat → Rho → List Own → Prop}
    (hit : IXT c ρ O (eval iter c.env) n rows) (hx : AsgOk c elts names) (hl : ∀ i, i < n → (rows i).length = names.length) (h0 : Inv 0 ρ O)
    (hbody : ∀ i ρ' O' W, i < n → Inv i ρ' O' → SB c (puts names (rows i) ρ') (W :: O') body (Turn Inv i W (Then c rest K))) (hend : ∀ ρ' O', Inv n ρ' O' → SB c ρ' O' rest K)
    (hs : ∀ x, foldedSetIterable iter c.env x = pure x := by intro _; rfl) :
    SB c ρ O (.For (.Tuple elts k pt) iter body [] pos :: rest) K := SX.seq (SX.forT hit hx hl h0 hbody hend hs)

/-- enumerate of a list -/
theorem IXT.enumerate {x : Str} {p pos : Pos} {e : Expr} {xs : List PyData} (hx : EX c ρ O (.Name x p) (.raw (.type "enumerate"))) (he : EX c ρ O e (.py (.list xs))) (hs : ∀ env, starEach [e] env = (false, eval e env) :: starEach [] env := by intro _; rfl) :
    IXT c ρ O (eval (.Call (.Name x p) [e] [] pos) c.env) xs.length (fun i => [.py (.int i), .py (xs.getD i .none)]) := by
  intro s hb S E
  refine wpAny_Call_Name_kw (wpx S hx fun v s₁ hb₁ x₁ S₁ r₁ => ?_)
  cases r₁
  have ha : ArgX c ρ O [e] [] [.py (.list xs)] [] := ArgX.plain (.cons he .nil hs)
  refine callWith_gen (wpx S₁ (ha _ _) fun a s₂ hb₂ x₂ S₂ r₂ => ⟨⟨_, .of_pure rfl⟩, ?_⟩)
  obtain ⟨v, rfl, q⟩ := VA.one r₂
  obtain ⟨a, o, vs, m, rfl, g1, g2, g3, g4⟩ := q.list_inv
  have ho := S₂.base.le _ _ g1
  have hl := g4.length
  simp only [List.length_map, Array.length_toList] at hl
  have hlt : a < s₂.heap.objs.size := Heap.lt_size ho
  refine call_enumerate_list (items := vs) ⟨o, ho, g2, m, g3⟩ fun h' hE hI hsz hk => ?_
  refine wpAny_pyIter_enum (s := { s₂ with heap := h' }) hE ?_
  have W := fun (A : Around) (hA : A.handled = none) => WalksT.enumerate (prog := PW) (w := c.w) (A := A) hA (s₂.heap.objs.size + 1) s₂.heap.objs.size a (Nat.succ_ne_self _) (Nat.ne_of_lt (Nat.lt_succ_of_lt hlt)) (Nat.ne_of_lt hlt) vs
  have x₃ := S₂.same (s' := { s₂ with heap := h' }) ⟨h', s₂.toks, rfl, hk⟩
  have X := (x₁.trans S.base x₂).trans S.base x₃
  rw [hl] at W
  have hP : ∀ i us hb', i < xs.length → Le hb₂ hb' → (∃ t x, vs[i]? = some x ∧ us = #[.int i t, x]) → VL hb' us.toList [.py (.int i), .py (xs.getD i .none)] := fun i us hb' hi hle hP => by
    obtain ⟨t, y, hy, rfl⟩ := hP
    obtain ⟨u, hu, hv⟩ := g4.get (d := .py (xs.getD i .none)) (i := i) (by simp [List.getD, hi])
    have : y = u := by
      rw [Array.getElem?_toList, hy] at hu; exact Option.some.inj hu
    exact VL.cons V.int (VL.cons (this ▸ hv.up hle) VL.nil)
  obtain ⟨hok, hT⟩ := ItT.of_walksT (hbI := hb₂) (rows := fun i => [.py (.int i), .py (xs.getD i .none)]) W hP (fun i h hp b hb' => by
    obtain ⟨⟨old, he⟩, ⟨o', ho', hc', _⟩, _⟩ := hp
    simp only [List.mem_cons, List.not_mem_nil, or_false] at hb'
    rcases hb' with rfl | rfl
    · exact ⟨_, he, by simp⟩
    · exact ⟨_, ho', by rw [hc']; decide⟩)
  refine ⟨hb₂, _, X, hT, hok, ⟨⟨_, hE⟩, hI, o, hk _ _ ho, g2, m, g3⟩, fun b hb' => ?_, fun b hb' => ?_⟩
  · simp only [ownW, List.mem_cons, List.not_mem_nil, or_false] at hb' ⊢
    rcases hb' with rfl | rfl | rfl
    · exact .inl (.inl rfl)
    · exact .inl (.inr rfl)
    · exact .inr ⟨o, g1⟩
  · have hf : s₂.heap.get? b = none := by
      simp only [ownW, List.mem_cons, List.not_mem_nil, or_false] at hb'
      rcases hb' with rfl | rfl
      · exact fresh_ge (Nat.le_succ _)
      · exact fresh_size _
    refine ⟨(x₁.trans S.base x₂).kp.none S.base.tab hf, ?_⟩
    cases e : hb₂.get? b with
    | none => rfl
    | some o => rw [S₂.base.le _ _ e] at hf; cases hf
end
end Mine
end

/-! ## F47 -/
section
set_option maxRecDepth 100000
namespace Mine

section
variable {c : Ctx} {ρ ρ' : Rho} {O O' : List Own} {hb hb' : Heap} {s s' : Shared}
theorem TR.or2 {e₁ e₂ : Expr} {pos : Pos} {b₁ b₂ : Bool} (h₁ : TR c ρ O e₁ b₁) (h₂ : b₁ = false → TR c ρ O e₂ b₂) : TR c ρ O (.BoolOp .Or [e₁, e₂] pos) (b₁ || b₂) := by
  intro s hb S E
  refine isTrue_or (wpx S h₁ fun v s₁ hb₁ x₁ S₁ r₁ => ?_)
  subst r₁
  cases v with
  | true => exact ⟨hb₁, x₁, rfl⟩
  | false =>
    refine isTrue_or (wpx S₁ (h₂ rfl) fun v s₂ hb₂ x₂ S₂ r₂ => ?_)
    subst r₂
    cases v with
    | true => exact ⟨hb₂, x₁.trans S.base x₂, rfl⟩
    | false => exact isTrue_or_nil ⟨hb₂, x₁.trans S.base x₂, rfl⟩
theorem SB.cont {pos : Pos} {rest : List Stmt} {K : Out → Prop} (h : K (.cont ρ O)) : SB c ρ O (.Continue pos :: rest) K := SX.seq (SX.cont h)
/-- a new dict, one's own -/
theorem SB.newDict {x : Str} {pos pos' p : Pos} {rest : List Stmt} {K : Out → Prop} (hx : Sto c x) (h : ∀ d, SB c (put ρ x (.raw (.ref d))) (dicOwn c.w d [] :: O) rest K)
    (hs : swapsWith (.Dict [] [] p) (some (.Name x pos')) pos.line c.env = pure false := by rfl) : SB c ρ O (.Assign [.Name x pos'] (.Dict [] [] p) pos :: rest) K := by
  intro s hb S E
  refine wpAny_execs_cons (wpAny_Assign_Name (wpAny_Dict_empty ?_) hs)
  have x₁ := S.same (keeps_push s { cls := .type "dict", data := .dict #[] } s.toks)
  have hn := fresh_size s.heap
  have hnb : hb.get? s.heap.objs.size = none := by
    cases e : hb.get? s.heap.objs.size with
    | none => rfl
    | some o => have := S.base.le _ _ e; rw [hn] at this; cases this
  have S₁ : St c ρ (dicOwn c.w s.heap.objs.size [] :: O) hb { s with heap := s.heap.push { cls := .type "dict", data := .dict #[] } } := by
    refine St.take S (S.step x₁) (dicOwn_ok _ _ _) ?_ (fun b h => ?_) (fun b h => ?_) (fun b h => ?_)
    · exact ⟨_, #[], 0, Heap.get?_push_size _ rfl, ⟨rfl, rfl, rfl⟩, rfl, rfl, (fun x h => by cases h), List.nodup_nil⟩
    · exact .inl (by simpa [dicOwn] using h)
    · rcases List.mem_cons.mp h with rfl | h
      · exact hn
      · cases h
    · rcases List.mem_cons.mp h with rfl | h
      · exact hnb
      · cases h
  refine wpAny_mono (S₁.store hx (d := .raw (.ref s.heap.objs.size)) rfl) (fun _ s₂ S₂ => ?_) fun _ _ e => e
  exact SX.up (h _) S₂ (fun b o e => e) E
theorem EX.pair {e₁ e₂ : Expr} {k : Nat} {pos : Pos} {i j : Int} (h₁ : EX c ρ O e₁ (.py (.int i))) (h₂ : EX c ρ O e₂ (.py (.int j))) (hs₁ : ∀ env, starEach [e₁, e₂] env = (false, eval e₁ env) :: starEach [e₂] env := by intro _; rfl)
    (hs₂ : ∀ env, starEach [e₂] env = (false, eval e₂ env) :: starEach [] env := by intro _; rfl) : EX c ρ O (.Tuple [e₁, e₂] k pos) (.py (.tuple (([i, j] : List Int).map .int))) :=
  EX.tupleDisp (xs := [.int i, .int j]) (.cons h₁ (.cons h₂ .nil hs₂) hs₁) (by simp)
end
end Mine
end

/-! ## C10 -/
section
set_option maxRecDepth 100000
namespace Mine

/-! ### Damerau's table -/
abbrev DM := List Int → Option Int
def dget (m : DM) (i j : Int) : Int := (m [i, j]).getD 0
def damI : Nat → DM
  | 0 => fun _ => none
  | k + 1 => upd (damI k) [-1 + (k : Int), -1] (-1 + (k : Int) + 1)
def damJ (m : DM) : Nat → DM
  | 0 => m
  | k + 1 => upd (damJ m k) [-1, -1 + (k : Int)] (-1 + (k : Int) + 1)
def damCost (eq : Nat → Nat → Bool) (i j : Nat) : Int := if !eq i j then 1 else 0
def damOne (eq : Nat → Nat → Bool) (i j : Nat) (m : DM) : DM :=
  upd m [i, j] (min (min (dget m (i - 1) j + 1) (dget m i (j - 1) + 1)) (dget m (i - 1) (j - 1) + damCost eq i j))
def damCell (eq : Nat → Nat → Bool) (i j : Nat) (m : DM) : DM :=
  if (i == 0 || j == 0) then damOne eq i j m else
  if !eq i (j - 1) then damOne eq i j m else
  if !eq (i - 1) j then damOne eq i j m else
  upd (damOne eq i j m) [i, j] (min (dget (damOne eq i j m) i j) (dget (damOne eq i j m) (i - 2) (j - 2) + damCost eq i j))
def damRow (eq : Nat → Nat → Bool) (i : Nat) (m : DM) : Nat → DM
  | 0 => m
  | j + 1 => damCell eq i j (damRow eq i m j)
def damAll (eq : Nat → Nat → Bool) (n : Nat) (m : DM) : Nat → DM
  | 0 => m
  | i + 1 => damRow eq i (damAll eq n m i) n
def damD (xs ys : List PyData) : Int := dget (damAll (eqAt xs ys) ys.length (damJ (damI (xs.length + 2)) (ys.length + 2)) xs.length) ((xs.length : Int) - 1) ((ys.length : Int) - 1)

theorem upd_some {m : DM} {k k' : List Int} {v : Int} (h : (m k').isSome = true) : (upd m k v k').isSome = true := by
  unfold upd; split
  · rfl
  · exact h
theorem upd_self {m : DM} {k : List Int} {v : Int} : (upd m k v k).isSome = true := by simp [upd]

/-- where the table is filled -/
structure Dom (n₁ n₂ i j : Nat) (m : DM) : Prop where
  a : ∀ a : Int, -1 ≤ a → a ≤ n₁ → (m [a, -1]).isSome = true
  b : ∀ b : Int, -1 ≤ b → b ≤ n₂ → (m [-1, b]).isSome = true
  c : ∀ a b : Int, 0 ≤ a → 0 ≤ b → b < n₂ → (a < i ∨ (a = i ∧ b < j)) → (m [a, b]).isSome = true
theorem Dom.get {n₁ n₂ i j : Nat} {m : DM} (D : Dom n₁ n₂ i j m) {a b : Int} (h : (b = -1 ∧ -1 ≤ a ∧ a ≤ n₁) ∨ (a = -1 ∧ -1 ≤ b ∧ b ≤ n₂) ∨ (0 ≤ a ∧ 0 ≤ b ∧ b < n₂ ∧ (a < i ∨ (a = i ∧ b < j)))) : m [a, b] = some (dget m a b) := by
  have : (m [a, b]).isSome = true := by
    rcases h with ⟨rfl, h1, h2⟩ | ⟨rfl, h1, h2⟩ | ⟨h1, h2, h3, h4⟩
    · exact D.a a h1 h2
    · exact D.b b h1 h2
    · exact D.c a b h1 h2 h3 h4
  obtain ⟨v, hv⟩ := Option.isSome_iff_exists.mp this
  simp [dget, hv]
theorem Dom.put {n₁ n₂ i j : Nat} {m : DM} (D : Dom n₁ n₂ i j m) {v : Int} : Dom n₁ n₂ i (j + 1) (upd m [i, j] v) := by
  refine ⟨fun a h1 h2 => upd_some (D.a a h1 h2), fun b h1 h2 => upd_some (D.b b h1 h2), fun a b h1 h2 h3 h4 => ?_⟩
  by_cases h : a = i ∧ b = j
  · obtain ⟨rfl, rfl⟩ := h; exact upd_self
  · exact upd_some (D.c a b h1 h2 h3 (by omega))
theorem Dom.again {n₁ n₂ i j : Nat} {m : DM} (D : Dom n₁ n₂ i j m) {k : List Int} {v : Int} : Dom n₁ n₂ i j (upd m k v) :=
  ⟨fun a h1 h2 => upd_some (D.a a h1 h2), fun b h1 h2 => upd_some (D.b b h1 h2), fun a b h1 h2 h3 h4 => upd_some (D.c a b h1 h2 h3 h4)⟩
theorem Dom.cell {n₁ n₂ i j : Nat} {m : DM} {eq : Nat → Nat → Bool} (D : Dom n₁ n₂ i j m) : Dom n₁ n₂ i (j + 1) (damCell eq i j m) := by
  unfold damCell
  have h1 : Dom n₁ n₂ i (j + 1) (damOne eq i j m) := D.put
  split
  · exact h1
  · split
    · exact h1
    · split
      · exact h1
      · exact h1.again
theorem Dom.row {n₁ n₂ i : Nat} {m : DM} {eq : Nat → Nat → Bool} (D : Dom n₁ n₂ i 0 m) : ∀ j, Dom n₁ n₂ i j (damRow eq i m j)
  | 0 => D
  | j + 1 => (D.row j).cell
theorem Dom.all {n₁ n₂ : Nat} {m : DM} {eq : Nat → Nat → Bool} (D : Dom n₁ n₂ 0 0 m) : ∀ i, Dom n₁ n₂ i 0 (damAll eq n₂ m i)
  | 0 => D
  | i + 1 => by
    have h := (D.all (eq := eq) i).row (eq := eq) n₂
    refine ⟨h.a, h.b, fun a b h1 h2 h3 h4 => h.c a b h1 h2 h3 (by omega)⟩
theorem damI_some : ∀ (k : Nat) (a : Int), -1 ≤ a → a < -1 + (k : Int) → (damI k [a, -1]).isSome = true
  | 0, a, h1, h2 => by omega
  | k + 1, a, h1, h2 => by
    rw [damI]
    by_cases h : a = -1 + (k : Int)
    · subst h; exact upd_self
    · exact upd_some (damI_some k a h1 (by omega))
theorem damJ_keep {m : DM} {q : List Int} (h : (m q).isSome = true) : ∀ k, (damJ m k q).isSome = true
  | 0 => h
  | k + 1 => by rw [damJ]; exact upd_some (damJ_keep h k)
theorem damJ_some {m : DM} : ∀ (k : Nat) (a : Int), -1 ≤ a → a < -1 + (k : Int) → (damJ m k [-1, a]).isSome = true
  | 0, a, h1, h2 => by omega
  | k + 1, a, h1, h2 => by
    rw [damJ]
    by_cases h : a = -1 + (k : Int)
    · subst h; exact upd_self
    · exact upd_some (damJ_some k a h1 (by omega))
theorem dom_start (n₁ n₂ : Nat) : Dom n₁ n₂ 0 0 (damJ (damI (n₁ + 2)) (n₂ + 2)) :=
  ⟨fun a h1 h2 => damJ_keep (damI_some _ a h1 (by omega)) _, fun b h1 h2 => damJ_some _ b h1 (by omega), fun a b h1 h2 h3 h4 => by omega⟩

def DInv (w : World) (d : Addr) (attrs : List (Str × D)) (xs ys : List PyData) (m : DM) (B : Nat) (Ws : List Own) (ρ : Rho) (O : List Own) : Prop :=
  ∃ es, O = dicOwn w d es :: Ws ∧ Says es m ∧ es.length ≤ B ∧ ρ "self" = some (IV 255 attrs) ∧ ρ "s1" = some (.py (.list xs)) ∧ ρ "s2" = some (.py (.list ys)) ∧ ρ "d" = some (.raw (.ref d))

theorem rngD_at {a b : Int} {i : Nat} {d : D} (h : (rngD a b)[i]? = some d) : a + (i : Int) < b ∧ d = .py (.int (a + (i : Int))) := by
  simp only [rngD, rng, List.getElem?_map, Option.map_eq_some_iff] at h
  obtain ⟨x, ⟨j, hj, rfl⟩, rfl⟩ := h
  have hi := (List.getElem?_eq_some_iff.mp hj).1
  simp at hi
  have : j = i := by
    have := (List.getElem?_eq_some_iff.mp hj).2
    simpa using this.symm
  subst this
  exact ⟨by omega, rfl⟩

section
variable {w : World} {n : Nat} {A : Around} {l : List Env} {s₀ : Shared} {hb₀ : Heap} {L : Addr} {attrs : List (Str × D)} {xs ys : List PyData}
set_option maxHeartbeats 4000000 in
theorem b_dam (ht : attrs.lookup ("test_func" : Str) = some (.raw (.ref 100))) (hok : SeqOk xs ys) (l1 : xs.length < 1000) (l2 : ys.length < 1000) (hx : 0 < xs.length) (hy : 0 < ys.length) :
    SB (fctx w (n + 1) A l s₀ hb₀ fd_245 L 245 (Gd w)) (rho [("self", IV 255 attrs), ("s1", .py (.list xs)), ("s2", .py (.list ys))] ρ0) [] (dBody d_dam_restricted) (fun o => o = .ret (.py (.int (damD xs ys)))) := by
  have hC : (255 : Addr) = 173 ∨ (255 : Addr) = 214 ∨ (255 : Addr) = 255 := .inr (.inr rfl)
  refine SB.newDict (stoL rfl rfl) fun d => ?_
  refine SB.for (ds := rngD (-1) ((xs.length : Int) + 1)) (Inv := fun i ρ O => DInv w d attrs xs ys (damI i) i [] ρ O) ?_ (stoL rfl rfl) ?_ ?_ ?_
  · rw [rngD_length]
    refine IX.range ?_ (by decide) (by decide) (by omega) (by omega)
    exact TX.callName (EX.builtin rfl (fun _ => by rfl) rfl) (.plain (.cons EX.neg1 (.cons (EX.bin (EX.lenList (EX.name rfl) rfl l1) EX.int OpX.add_int) .nil))) FnC.range2 (Nat.zero_le _) (fun _ _ g => g) Keeps?.type
  · exact ⟨[], rfl, (fun k i h => by cases h), Nat.le_refl _, rfl, rfl, rfl, rfl⟩
  · rintro i dd ρ' O' W hd ⟨es, rfl, hS, hl, i1, i2, i3, i4⟩
    obtain ⟨hi, rfl⟩ := rngD_at hd
    refine SB.perm (O := dicOwn w d es :: W :: []) (.swap ..) ?_
    refine SX.seq (SX.dictSet (m := damI i) (k := [-1 + (i : Int), -1]) (j := -1 + (i : Int) + 1) (EX.bin (EX.name rfl) EX.int OpX.add_int) (EX.name i4) (EX.pair (EX.name rfl) EX.neg1) (by omega) hS fun es' hS' hl' => ?_)
    refine SB.perm (O := W :: dicOwn w d es' :: []) (.swap ..) (SB.nil ⟨_, rfl, es', rfl, hS', by omega, i1, i2, i3, i4⟩)
  rintro ρ' O' ⟨es, rfl, hS, hl, i1, i2, i3, i4⟩
  have e1 : (rngD (-1) ((xs.length : Int) + 1)).length = xs.length + 2 := by rw [rngD_length]; omega
  have e2 : (rngD (-1) ((ys.length : Int) + 1)).length = ys.length + 2 := by rw [rngD_length]; omega
  rw [e1] at hS hl
  refine SB.for (ds := rngD (-1) ((ys.length : Int) + 1)) (Inv := fun i ρ O => DInv w d attrs xs ys (damJ (damI (xs.length + 2)) i) (1100 + i) [] ρ O) ?_ (stoL rfl rfl) ?_ ?_ ?_
  · rw [rngD_length]
    refine IX.range ?_ (by decide) (by decide) (by omega) (by omega)
    exact TX.callName (EX.builtin rfl (fun _ => by rfl) rfl) (.plain (.cons EX.neg1 (.cons (EX.bin (EX.lenList (EX.name i3) rfl l2) EX.int OpX.add_int) .nil))) FnC.range2 (Nat.zero_le _) (fun _ _ g => g) Keeps?.type
  · exact ⟨es, rfl, hS, by omega, i1, i2, i3, i4⟩
  · rintro i dd ρ' O' W hd ⟨es, rfl, hS, hl, i1, i2, i3, i4⟩
    obtain ⟨hi, rfl⟩ := rngD_at hd
    refine SB.perm (O := dicOwn w d es :: W :: []) (.swap ..) ?_
    refine SX.seq (SX.dictSet (m := damJ (damI (xs.length + 2)) i) (k := [-1, -1 + (i : Int)]) (j := -1 + (i : Int) + 1) (EX.bin (EX.name rfl) EX.int OpX.add_int) (EX.name i4) (EX.pair EX.neg1 (EX.name rfl)) (by omega) hS fun es' hS' hl' => ?_)
    refine SB.perm (O := W :: dicOwn w d es' :: []) (.swap ..) (SB.nil ⟨_, rfl, es', rfl, hS', by omega, i1, i2, i3, i4⟩)
  clear hS hl i1 i2 i3 i4
  rintro ρ' O' ⟨es, rfl, hS, hl, i1, i2, i3, i4⟩
  rw [e2] at hS hl
  have D0 := dom_start xs.length ys.length
  have hD : damD xs ys = dget (damAll (eqAt xs ys) ys.length (damJ (damI (xs.length + 2)) (ys.length + 2)) xs.length) ((xs.length : Int) - 1) ((ys.length : Int) - 1) := rfl
  generalize damJ (damI (xs.length + 2)) (ys.length + 2) = m₀ at hS D0 hD
  have idc : ∀ a b, a < xs.length → b < ys.length → CoC w (.ref 100) 1 (Gd w) [.py (xs.getD a .none), .py (ys.getD b .none)] [] (fun h v => V h v (.py (.bool (eqAt xs ys a b)))) := fun a b ha hb => by
    have hxe : xs[a]? = some (xs.getD a .none) := by simp [List.getD, ha]
    have hye : ys[b]? = some (ys.getD b .none) := by simp [List.getD, hb]
    obtain ⟨o1, o2, o3⟩ := hok _ (List.mem_of_getElem? hxe) _ (List.mem_of_getElem? hye)
    exact c_ident (n := 0) o1 o2 o3
  refine SB.forT (n := xs.length) (rows := fun i => [.py (.int i), .py (xs.getD i .none)]) (names := ["i", "cs1"]) (Inv := fun i ρ O => DInv w d attrs xs ys (damAll (eqAt xs ys) ys.length m₀ i) (3000 + 2000 * i) [] ρ O) ?_ ?_ ?_ ?_ ?_ ?_
  · exact IXT.enumerate (EX.builtin rfl (fun _ => by rfl) rfl) (EX.name i2)
  · exact .cons (stoL rfl rfl) (.cons (stoL rfl rfl) .nil)
  · exact fun i hi => rfl
  · exact ⟨es, rfl, hS, by omega, i1, i2, i3, i4⟩
  · clear hS hl i1 i2 i3 i4
    rintro i ρ' O' W hi ⟨es, rfl, hS, hl, i1, i2, i3, i4⟩
    have D := D0.all (eq := eqAt xs ys) i
    obtain ⟨m, hm⟩ : ∃ m, m = damAll (eqAt xs ys) ys.length m₀ i := ⟨_, rfl⟩
    have hm' : damAll (eqAt xs ys) ys.length m₀ (i + 1) = damRow (eqAt xs ys) i m ys.length := by rw [damAll, hm]
    rw [← hm] at hS D
    refine SB.perm (O := dicOwn w d es :: [W]) (.swap ..) ?_
    refine SB.forT (n := ys.length) (rows := fun j => [.py (.int j), .py (ys.getD j .none)]) (names := ["j", "cs2"]) (Inv := fun j ρ O => DInv w d attrs xs ys (damRow (eqAt xs ys) i m j) (3000 + 2000 * i + 2 * j) [W] ρ O ∧ ρ "i" = some (.py (.int i)) ∧ ρ "cs1" = some (.py (xs.getD i .none))) ?_ ?_ ?_ ?_ ?_ ?_
    · exact IXT.enumerate (EX.builtin rfl (fun _ => by rfl) rfl) (EX.name i3)
    · exact .cons (stoL rfl rfl) (.cons (stoL rfl rfl) .nil)
    · exact fun i hi => rfl
    · exact ⟨⟨es, rfl, hS, hl, i1, i2, i3, i4⟩, rfl, rfl⟩
    · clear hS hl i1 i2 i3 i4
      rintro j ρ'' O'' W' hj ⟨⟨es', rfl, hS', hl', j1, j2, j3, j4⟩, j5, j6⟩
      have Dj := D.row (eq := eqAt xs ys) j
      obtain ⟨mj, hmj⟩ : ∃ mj, mj = damRow (eqAt xs ys) i m j := ⟨_, rfl⟩
      have hmj' : damRow (eqAt xs ys) i m (j + 1) = damCell (eqAt xs ys) i j mj := by rw [damRow, hmj]
      rw [← hmj] at hS' Dj
      refine SB.perm (O := dicOwn w d es' :: W' :: [W]) (.swap ..) ?_
      refine SB.assign (d := .py (.int (damCost (eqAt xs ys) i j))) ?_ (stoL rfl rfl) ?_
      · exact EX.call1 (EX.builtin rfl (fun _ => by rfl) rfl) (EX.notX (TX.methOwn (EX.name j1) cls_dam ht (no_test hC) (.plain (.cons (EX.name j6) (.cons (EX.name rfl) .nil))) (idc i j hi hj).fn (isFn_100.keeps fun _ h => h) (by show 1 ≤ n + 1; omega)) TrX.bool) FnC.int_bool Keeps?.type
      refine SX.seq (SX.dictSet (m := mj) (k := [(i : Int), (j : Int)]) (j := min (min (dget mj (i - 1) j + 1) (dget mj i (j - 1) + 1)) (dget mj (i - 1) (j - 1) + damCost (eqAt xs ys) i j)) ?_ (EX.name j4) (EX.pair (EX.name j5) (EX.name rfl)) (by omega) hS' fun es₁ hS₁ hl₁ => ?_)
      · refine TX.callName (EX.builtin rfl (fun _ => by rfl) rfl) (.plain (.cons ?_ (.cons ?_ (.cons ?_ .nil)))) FnC.min3 (Nat.zero_le _) (fun _ _ g => g) Keeps?.builtin
        · exact EX.bin (EX.dictGet (m := mj) (EX.name j4) (EX.pair (EX.bin (EX.name j5) EX.int OpX.sub_int) (EX.name rfl)) (List.mem_cons_self ..) hS' (Dj.get (by omega))) EX.int OpX.add_int
        · exact EX.bin (EX.dictGet (m := mj) (EX.name j4) (EX.pair (EX.name j5) (EX.bin (EX.name rfl) EX.int OpX.sub_int)) (List.mem_cons_self ..) hS' (Dj.get (by omega))) EX.int OpX.add_int
        · exact EX.bin (EX.dictGet (m := mj) (EX.name j4) (EX.pair (EX.bin (EX.name j5) EX.int OpX.sub_int) (EX.bin (EX.name rfl) EX.int OpX.sub_int)) (List.mem_cons_self ..) hS' (Dj.get (by omega))) (EX.name rfl) OpX.add_int
      have D1 : Dom xs.length ys.length i (j + 1) (damOne (eqAt xs ys) i j mj) := Dj.put
      have hS₁' : Says es₁ (damOne (eqAt xs ys) i j mj) := hS₁
      refine SB.if (k := (!((i : Int) != 0) || !((j : Int) != 0))) (TR.or2 (TR.not (TR.of (EX.name j5) TrX.int) rfl) fun _ => TR.not (TR.of (EX.name rfl) TrX.int) rfl) ?_
      have hk : (!((i : Int) != 0) || !((j : Int) != 0)) = (i == 0 || j == 0) := by
        rw [Bool.eq_iff_iff]; simp
      rw [hk]
      cases h0 : (i == 0 || j == 0) with
      | true =>
        refine SB.perm (O := W' :: dicOwn w d es₁ :: [W]) (.swap ..) (SB.cont ⟨_, rfl, ⟨es₁, rfl, ?_, by omega, j1, j2, j3, j4⟩, j5, j6⟩)
        rw [hmj', damCell, if_pos h0]; exact hS₁
      | false =>
        have hne : i ≠ 0 ∧ j ≠ 0 := by simpa using h0
        refine SB.skip ?_
        refine SB.if (k := !eqAt xs ys i (j - 1)) (TR.not (TR.of (TX.methOwn (EX.name j1) cls_dam ht (no_test hC) (.plain (.cons (EX.name j6) (.cons ?_ .nil))) (idc i (j - 1) hi (by omega)).fn (isFn_100.keeps fun _ h => h) (by show 1 ≤ n + 1; omega)) TrX.bool) rfl) ?_
        · refine EX.sub (EX.name j3) (EX.bin (EX.name rfl) EX.int OpX.sub_int) (GiX.list (by omega) (by omega) ?_) PySem.F.slot_list_getitem.lookup
          rw [show ((j : Int) - 1).toNat = j - 1 by omega]
          have : j - 1 < ys.length := by omega
          simp [List.getD, this]
        cases h1 : eqAt xs ys i (j - 1) with
        | false =>
          refine SB.perm (O := W' :: dicOwn w d es₁ :: [W]) (.swap ..) (SB.cont ⟨_, rfl, ⟨es₁, rfl, ?_, by omega, j1, j2, j3, j4⟩, j5, j6⟩)
          rw [hmj', damCell, if_neg (by simp [h0]), if_pos (by simp [h1])]; exact hS₁
        | true =>
          refine SB.skip ?_
          refine SB.if (k := !eqAt xs ys (i - 1) j) (TR.not (TR.of (TX.methOwn (EX.name j1) cls_dam ht (no_test hC) (.plain (.cons ?_ (.cons (EX.name rfl) .nil))) (idc (i - 1) j (by omega) hj).fn (isFn_100.keeps fun _ h => h) (by show 1 ≤ n + 1; omega)) TrX.bool) rfl) ?_
          · refine EX.sub (EX.name j2) (EX.bin (EX.name j5) EX.int OpX.sub_int) (GiX.list (by omega) (by omega) ?_) PySem.F.slot_list_getitem.lookup
            rw [show ((i : Int) - 1).toNat = i - 1 by omega]
            have : i - 1 < xs.length := by omega
            simp [List.getD, this]
          cases h2 : eqAt xs ys (i - 1) j with
          | false =>
            refine SB.perm (O := W' :: dicOwn w d es₁ :: [W]) (.swap ..) (SB.cont ⟨_, rfl, ⟨es₁, rfl, ?_, by omega, j1, j2, j3, j4⟩, j5, j6⟩)
            rw [hmj', damCell, if_neg (by simp [h0]), if_neg (by simp [h1]), if_pos (by simp [h2])]; exact hS₁
          | true =>
            refine SB.skip ?_
            refine SX.seq (SX.dictSet (m := damOne (eqAt xs ys) i j mj) (k := [(i : Int), (j : Int)]) (j := min (dget (damOne (eqAt xs ys) i j mj) i j) (dget (damOne (eqAt xs ys) i j mj) (i - 2) (j - 2) + damCost (eqAt xs ys) i j)) ?_ (EX.name j4) (EX.pair (EX.name j5) (EX.name rfl)) (by omega) hS₁' fun es₂ hS₂ hl₂ => ?_)
            · refine TX.callName (EX.builtin rfl (fun _ => by rfl) rfl) (.plain (.cons ?_ (.cons ?_ .nil))) FnC.min2 (Nat.zero_le _) (fun _ _ g => g) Keeps?.builtin
              · exact EX.dictGet (m := damOne (eqAt xs ys) i j mj) (EX.name j4) (EX.pair (EX.name j5) (EX.name rfl)) (List.mem_cons_self ..) hS₁' (D1.get (by omega))
              · exact EX.bin (EX.dictGet (m := damOne (eqAt xs ys) i j mj) (EX.name j4) (EX.pair (EX.bin (EX.name j5) EX.int OpX.sub_int) (EX.bin (EX.name rfl) EX.int OpX.sub_int)) (List.mem_cons_self ..) hS₁' (D1.get (by omega))) (EX.name rfl) OpX.add_int
            · refine SB.perm (O := W' :: dicOwn w d es₂ :: [W]) (.swap ..) (SB.nil ⟨_, rfl, ⟨es₂, rfl, ?_, by omega, j1, j2, j3, j4⟩, j5, j6⟩)
              rw [hmj', damCell, if_neg (by simp [h0]), if_neg (by simp [h1]), if_neg (by simp [h2])]; exact hS₂
    · rintro ρ'' O'' ⟨⟨es', rfl, hS', hl', j1, j2, j3, j4⟩, _, _⟩
      refine SB.perm (O := W :: dicOwn w d es' :: []) (.swap ..) (SB.nil ⟨_, rfl, es', rfl, ?_, by omega, j1, j2, j3, j4⟩)
      rw [hm']; exact hS'
  · clear hS hl i1 i2 i3 i4
    rintro ρ' O' ⟨es, rfl, hS, hl, i1, i2, i3, i4⟩
    have D := D0.all (eq := eqAt xs ys) xs.length
    refine SB.ret (d := .py (.int (damD xs ys))) ?_ rfl
    rw [hD]
    exact EX.dictGet (EX.name i4) (EX.pair (EX.bin (EX.lenList (EX.name i2) rfl l1) EX.int OpX.sub_int) (EX.bin (EX.lenList (EX.name i3) rfl l2) EX.int OpX.sub_int)) (List.mem_cons_self ..) hS (D.get (by omega))
end
end Mine
end

/-! ## C11 -/
section
set_option maxRecDepth 100000
namespace Mine

section
variable {w : World} {n : Nat} {attrs : List (Str × D)} {xs ys : List PyData}
theorem c_dam (ht : attrs.lookup ("test_func" : Str) = some (.raw (.ref 100))) (hok : SeqOk xs ys) (l1 : xs.length < 1000) (l2 : ys.length < 1000) (hx : 0 < xs.length) (hy : 0 < ys.length) :
    CoC w (.ref 245) (n + 2) (Gd w) [IV 255 attrs, .py (.list xs), .py (.list ys)] [] (fun h v => V h v (.py (.int (damD xs ys)))) := by
  refine CoC.def isFn_245 (fun _ h => h) (fun _ _ k g => g.up k) (bs := [("self", IV 255 attrs), ("s1", .py (.list xs)), ("s2", .py (.list ys))]) (K := fun o => o = .ret (.py (.int (damD xs ys)))) ?_ ?_ (fun A l s₀ hb₀ L => b_dam ht hok l1 l2 hx hy) ?_
  · intro x hx
    simp only [List.mem_cons, List.not_mem_nil, or_false] at hx
    rcases hx with rfl | rfl | rfl <;> exact .inl (by rfl)
  · exact fun A l s hb B hP a ha E => three_binds B ha (fun _ _ _ => by rfl) E
  · rintro o rfl
    exact .inl ⟨_, rfl, fun h v x => x⟩
end

section
variable {w : World} {n : Nat} {A : Around} {l : List Env} {s₀ : Shared} {hb₀ : Heap} {L : Addr} {attrs : List (Str × D)} {dx dy : PyData} {xs ys : List PyData}
theorem b_dam_call (F : Fit xs ys) (ht : attrs.lookup ("test_func" : Str) = some (.raw (.ref 100))) (hr : attrs.lookup ("restricted" : Str) = some (.py (.bool true))) (hn0 : attrs.lookup ("_get_sequences" : Str) = none) (hn1 : attrs.lookup ("_ident" : Str) = none) (hn2 : attrs.lookup ("maximum" : Str) = none) (hn3 : attrs.lookup ("quick_answer" : Str) = none) (hn4 : attrs.lookup ("_pure_python_restricted" : Str) = none)
    (hG : CoC w (.ref 108) 3 (Gd w) [IV 255 attrs, .py dx, .py dy] [] (fun h v => V h v (.py (.list [.list xs, .list ys])))) :
    SB (fctx w (n + 3) A l s₀ hb₀ fd_252 L 252 (Gd w)) (rho [("self", IV 255 attrs), ("s1", .py dx), ("s2", .py dy)] ρ0) [] (dBody d_dam_call) (fun o => o = .ret (.py (.int (ansD xs ys (damD xs ys))))) := by
  have hC : (255 : Addr) = 173 ∨ (255 : Addr) = 214 ∨ (255 : Addr) = 255 := .inr (.inr rfl)
  refine SB.assign2 (T := "list") (d₁ := .py (.list xs)) (d₂ := .py (.list ys)) (.inl rfl) ?_ ?_ ?_ ?_
  · refine EX.listSeq (TX.meth (EX.name (d := IV 255 attrs) rfl) cls_dam hn0 (find_get hC) (fun _ => by rfl) (.plain (.cons (EX.name rfl) (.cons (EX.name rfl) .nil))) hG.fn (isFn_108.keeps fun _ h => h) (by show 3 ≤ n + 3; omega))
  · exact stoL rfl rfl
  · exact stoL rfl rfl
  refine SB.assign (d := .py (quickD xs ys)) ?_ ?_ ?_
  · exact TX.meth (EX.name (d := IV 255 attrs) rfl) cls_dam hn3 (find_quick hC) (fun _ => by rfl) (.plain (.cons (EX.name rfl) (.cons (EX.name rfl) .nil))) (c_quick (n := 0) hC hn1 hn2 F.s1 F.s2 F.l1 F.l2).fn (isFn_93.keeps fun _ h => h) (by show 2 ≤ n + 3; omega)
  · exact stoL rfl rfl
  have hint : ∀ i : Int, quickD xs ys = .int i → ansD xs ys (damD xs ys) = i → SB (fctx w (n + 3) A l s₀ hb₀ fd_252 L 252 (Gd w)) (put (put (put (rho [("self", IV 255 attrs), ("s1", .py dx), ("s2", .py dy)] ρ0) "s1" (.py (.list xs))) "s2" (.py (.list ys))) "result" (.py (quickD xs ys))) [] ((dBody d_dam_call).drop 2) (fun o => o = .ret (.py (.int (ansD xs ys (damD xs ys))))) := by
    intro i hq ha
    rw [hq, ha]
    refine SB.ifTrue (TR.cmp (EX.name rfl) EX.noneX CmX.isNotNone_int) ?_
    exact SB.ret (EX.name rfl) rfl
  by_cases he : PyData.eqv (.list xs) (.list ys) = true
  · exact hint 0 (by simp [quickD, he]) (by simp [ansD, he])
  · by_cases ha : (!xs.isEmpty && !ys.isEmpty) = true
    · have hq : quickD xs ys = .none := by simp only [quickD, if_neg he, if_pos ha]
      have hd : ansD xs ys (damD xs ys) = damD xs ys := by simp only [ansD, if_neg he, if_pos ha]
      rw [hq, hd]
      refine SB.ifFalse (TR.cmp (EX.name rfl) EX.noneX CmX.isNotNone_none) (SB.skip ?_)
      have hxy : 0 < xs.length ∧ 0 < ys.length := by
        cases xs with
        | nil => simp at ha
        | cons => cases ys with
          | nil => simp at ha
          | cons => simp
      refine SB.ifTrue (TR.of (EX.attr (EX.name (d := IV 255 attrs) rfl) cls_dam hr Handed.bool (fun _ => by rfl) (fun _ => by rfl)) TrX.bool) ?_
      refine SB.ret (d := .py (.int (damD xs ys))) ?_ rfl
      exact TX.meth (EX.name (d := IV 255 attrs) rfl) cls_dam hn4 (f := 245) (fun _ => by rfl) (fun _ => by rfl) (.plain (.cons (EX.name rfl) (.cons (EX.name rfl) .nil))) (c_dam (n := 0) ht F.ok F.l1 F.l2 hxy.1 hxy.2).fn (isFn_245.keeps fun _ h => h) (by show 2 ≤ n + 3; omega)
    · exact hint (max xs.length ys.length : Nat) (by simp only [quickD, if_neg he, if_neg ha]) (by simp only [ansD, if_neg he, if_neg ha])
end
/-- Damerau's distance -/
theorem c_dam_call {w : World} {n : Nat} {attrs : List (Str × D)} {dx dy : PyData} {xs ys : List PyData} (F : Fit xs ys) (ht : attrs.lookup ("test_func" : Str) = some (.raw (.ref 100))) (hr : attrs.lookup ("restricted" : Str) = some (.py (.bool true))) (hn0 : attrs.lookup ("_get_sequences" : Str) = none) (hn1 : attrs.lookup ("_ident" : Str) = none) (hn2 : attrs.lookup ("maximum" : Str) = none) (hn3 : attrs.lookup ("quick_answer" : Str) = none) (hn4 : attrs.lookup ("_pure_python_restricted" : Str) = none)
    (hG : CoC w (.ref 108) 3 (Gd w) [IV 255 attrs, .py dx, .py dy] [] (fun h v => V h v (.py (.list [.list xs, .list ys])))) :
    CoC w (.ref 252) (n + 4) (Gd w) [IV 255 attrs, .py dx, .py dy] [] (fun h v => V h v (.py (.int (ansD xs ys (damD xs ys))))) := by
  refine CoC.def isFn_252 (fun _ h => h) (fun _ _ k g => g.up k) (bs := [("self", IV 255 attrs), ("s1", .py dx), ("s2", .py dy)]) (K := fun o => o = .ret (.py (.int (ansD xs ys (damD xs ys))))) ?_ ?_ (fun A l s₀ hb₀ L => b_dam_call F ht hr hn0 hn1 hn2 hn3 hn4 hG) ?_
  · intro x hx
    simp only [List.mem_cons, List.not_mem_nil, or_false] at hx
    rcases hx with rfl | rfl | rfl <;> exact .inl (by rfl)
  · exact fun A l s hb B hP a ha E => three_binds B ha (fun _ _ _ => by rfl) E
  · rintro o rfl
    exact .inl ⟨_, rfl, fun h v x => x⟩
theorem find_call_dam : ∀ P, findIn (KG P) (.ref 255) "__call__" = some (some (.ref 252)) := fun _ => by rfl
theorem find_call_ham : ∀ P, findIn (KG P) (.ref 173) "__call__" = some (some (.ref 170)) := fun _ => by rfl
end Mine
end

/-! ## F48 -/
section
set_option maxRecDepth 100000
namespace Mine

/-! ### a generator expression of one block -/
theorem St.genCode {c : Ctx} {ρ : Rho} {O : List Own} {hb : Heap} {s : Shared} {A : Around} {E : Value → Shared → Prop} {Q : Value → Shared → Prop} {scope : Scope} {q : Str} {pos : Pos} (S : St c ρ O hb s) (hc : c.env.code = .ref CH) (hq : q = geQual) (hp : pos = gePos)
    (hQ : ∀ code s', Ext c.l s hb s' hb → Q code s') : wpAny (MM c.w) A (genexprCode c.env pos q scope) Q E s := by
  subst hp hq
  obtain ⟨ps, h1, h2, h3⟩ := S.base.tab
  rcases h3 with rfl | ⟨c', o, h4, h5, h6⟩
  · refine wpAny_genexprCodeX hc h1 h2 rfl fun c' h' tk hx hge hlt hcode hrec htab hP' => ?_
    refine hQ _ _ (.same S.base ⟨fun b o hb _ e => hx b o hb e, fun b _ hb o e => ⟨o.slots, hx b o hb e⟩, fun _ => ?_, rfl, gid⟩)
    obtain ⟨P', _, _, ⟨o, vs, a1, a2, a3, a4⟩, _⟩ := hP'
    obtain ⟨c₂, o₂, vs₂, t₂, e₂, g₂, r₂, r₃⟩ := hrec
    cases e₂
    refine ⟨_, hcode, htab, .inr ⟨c', o, ?_, a1, a2, vs, t₂, a3, ?_⟩⟩
    · simp [codeAmong, rawInt]
    · rw [a1] at g₂; cases g₂
      rw [a3] at r₂; cases r₂
      exact r₃
  · exact wpAny_genexprCode_hit hc h1 h4 (hQ _ _ S.refl)

def gEnv (c : Ctx) (scope : Scope) (C : Addr) (code : Value) : Env := genEnv scope (clos c.env.cells scope.names []) C code builtinsNs c.env
def gctx (c : Ctx) (scope : Scope) (C : Addr) (code : Value) (s₁ : Shared) (hb₁ : Heap) (G : Array GenState) (A' : Around) (n' : Nat) : Ctx :=
  { c with A := A', n := n', env := gEnv c scope C code, l := gEnv c scope C code :: c.l, lo := c.l, s₀ := { s₁ with gens := G }, hb₀ := hb₁, wn := fun _ => false, wl := true }

def sOwn (S : Addr) (ob : Obj) : Own := ⟨[S], [S], fun h => h.get? S = some ob⟩
theorem sOwn_ok {S : Addr} {ob : Obj} (h : ob.cls ≠ .type "code") : (sOwn S ob).Ok :=
  ⟨fun _ h => h, fun h h' hp k => k S (List.mem_cons_self ..) _ hp, fun h' e b hb => by
    rcases List.mem_cons.mp hb with rfl | hb
    · exact ⟨_, e, h⟩
    · cases hb⟩

structure GSt (c : Ctx) (C S : Addr) (s₁ : Shared) (hb₁ : Heap) (G : Array GenState) (hb₅ : Heap) (W : Nat → Own) (i : Nat) (ob : Obj) (hb : Heap) (s : Shared) : Prop where
  ext : Ext c.l { s₁ with gens := G } hb₁ s hb
  p : (W i).p s.heap
  ns : ∃ m, s.heap.Ns C m
  hbC : hb.get? C = none
  fp : ∀ b ∈ (W i).fp, b ∈ (W i).wr ∨ ∃ ob, hb.get? b = some ob
  wr : ∀ b ∈ (W i).wr, hb.get? b = none ∧ s₁.heap.get? b = none ∧ b ≠ C
  le : Le hb₅ hb
  sp : s.heap.get? S = some ob
  sb : hb.get? S = none
  sw : S ∉ (W i).wr
  sc : ob.cls ≠ .type "code"

/-- a name of the block around, seen in a generator expression -/
def VisG (c : Ctx) (scope : Scope) (y : Str) : Prop :=
  ∃ a, c.env.cells.lookup y = some a ∧ (c.env.kindOf y = some .cell ∨ c.env.kindOf y = some .free) ∧ (clos c.env.cells scope.names []).lookup y = some a ∧ scope.names.lookup y = some .free

structure GFix (c : Ctx) (ρ : Rho) (O : List Own) (scope : Scope) (ns : List Str) (C S : Addr) (s₁ : Shared) (hb₁ : Heap) (G : Array GenState) (W : Nat → Own) : Prop where
  S₁ : St c ρ O hb₁ s₁
  hG : GK s₁.gens G
  hok : ∀ i, (W i).Ok
  hC : s₁.heap.get? C = none
  hS : s₁.heap.get? S = none
  hSC : S ≠ C
  free : scope.names.all (fun x => x.2 != .free || (c.env.cells.lookup x.1).isSome) = true
  kind : scope.kind = .function
  co : scope.isCoroutine = false
  vis : ∀ y ∈ ns, VisG c scope y

section
variable {c : Ctx} {ρ : Rho} {O : List Own} {scope : Scope} {ns : List Str} {C S : Addr} {s₁ : Shared} {hb₁ : Heap} {G : Array GenState} {W : Nat → Own} {hb₅ : Heap} {i : Nat} {ob : Obj} {hb : Heap} {s : Shared} {code : Value} {A' : Around} {n' : Nat}

theorem GSt.ext₁ (F : GFix c ρ O scope ns C S s₁ hb₁ G W) (g : GSt c C S s₁ hb₁ G hb₅ W i ob hb s) : Ext c.l s₁ hb₁ s hb :=
  ⟨⟨g.ext.kp.keep, g.ext.kp.fr, g.ext.kp.tab, g.ext.kp.os, F.hG.trans g.ext.kp.bare⟩, g.ext.le, g.ext.gr, g.ext.le'⟩
theorem GSt.outer (F : GFix c ρ O scope ns C S s₁ hb₁ G W) (g : GSt c C S s₁ hb₁ G hb₅ W i ob hb s) : St c ρ O hb s := F.S₁.step (g.ext₁ F)

theorem GSt.enter (F : GFix c ρ O scope ns C S s₁ hb₁ G W) (g : GSt c C S s₁ hb₁ G hb₅ W i ob hb s) (hR : Room n' A' (gEnv c scope C code :: c.l)) :
    St (gctx c scope C code s₁ hb₁ G A' n') (keepNames ns ρ) [W i, sOwn S ob] hb s := by
  have S' := g.outer F
  have alive : ∀ b o, s₁.heap.get? b = some o → b ≠ C ∧ b ≠ S := fun b o e => ⟨(by rintro rfl; rw [F.hC] at e; cases e), (by rintro rfl; rw [F.hS] at e; cases e)⟩
  have hph : C ≠ PH ∧ S ≠ PH := by
    obtain ⟨ps, e⟩ := F.S₁.base.tab.obj
    exact ⟨(alive _ _ e).1.symm, (alive _ _ e).2.symm⟩
  have hfr : ∀ b ∈ fra c.l, b ≠ C ∧ b ≠ S := fun b hb => by obtain ⟨_, _, m, o', _, _, e, _⟩ := F.S₁.base.fr b hb; exact alive b o' e
  have hcell : ∀ n a, (clos c.env.cells scope.names []).lookup n = some a → c.env.cells.lookup n = some a := fun n a h => by
    rcases clos_mem F.free h with h | h
    · cases h
    · exact h
  have hcellAl : ∀ n a, c.env.cells.lookup n = some a → ∃ o, s₁.heap.get? a = some o := fun n a h => by
    obtain ⟨_, _, ⟨v, o, e, _⟩, _⟩ := F.S₁.cells n a h; exact ⟨o, e⟩
  refine { ok := ?_, base := ?_, env := ?_, loc := ⟨g.ns, g.hbC, fun _ => F.hC⟩, cells := ?_, cellsA := fun _ _ _ h => (by cases h), own := ?_, disj := ?_, pers := S'.pers, ext := g.ext }
  · refine { room := hR, kind := F.kind, glob := F.S₁.ok.glob, bi := rfl, lolo := fun b hb => List.mem_cons_of_mem _ hb, new := fun b hb => ?_, pup := F.S₁.ok.pup, tab₀ := F.S₁.base.tab }
    rcases List.mem_cons.mp hb with rfl | hb
    · exact .inr F.hC
    · exact .inl hb
  · refine ⟨S'.base.le, S'.base.ph, fun b hb => ?_, S'.base.gd, S'.base.tab, fun e he => ?_⟩
    · rcases List.mem_cons.mp hb with rfl | hb
      · exact ⟨g.hbC, hph.1, g.ns⟩
      · exact S'.base.fr b hb
    · rcases List.mem_cons.mp he with rfl | he
      · refine ⟨fun q => ?_, _, rfl⟩
        have hk : (gEnv c scope C code).scope.kind = scope.kind := rfl
        rw [hk, F.kind] at q; cases q
      · exact S'.base.fk e he
  · intro y d e
    unfold keepNames at e
    split at e
    · rename_i hy
      obtain ⟨a, h1, h2, h3, h4⟩ := F.vis y (by simpa using hy)
      obtain ⟨v, hs, hv⟩ := S'.env y d e
      refine ⟨v, .inr ⟨.inr h4, a, h3, ?_⟩, hv⟩
      rcases hs with ⟨k1, _⟩ | ⟨_, a', k2, k3⟩
      · rcases h2 with h2 | h2 <;> rw [h2] at k1 <;> cases k1
      · rw [h1] at k2; cases k2; exact k3
    · cases e
  · intro n a h
    have h' := hcell n a h
    obtain ⟨k1, k2, k3, _⟩ := S'.cells n a h'
    obtain ⟨o, e⟩ := hcellAl n a h'
    exact ⟨(alive a o e).1, k2, k3, fun h => by cases h⟩
  · intro o ho
    rcases List.mem_cons.mp ho with rfl | ho
    · refine ⟨F.hok i, g.p, g.fp, fun b hb => ⟨(g.wr b hb).1, (g.wr b hb).2.1, ?_, fun q => ?_, (g.wr b hb).2.2, fun n a h => ?_⟩⟩
      · rintro rfl; obtain ⟨ps, e⟩ := F.S₁.base.tab.obj; rw [(g.wr _ hb).2.1] at e; cases e
      · rcases List.mem_cons.mp q with q | q
        · exact (g.wr b hb).2.2 q
        · obtain ⟨_, _, m, o', _, _, e, _⟩ := F.S₁.base.fr b q; rw [(g.wr b hb).2.1] at e; cases e
      · rintro rfl; obtain ⟨o, e⟩ := hcellAl n _ (hcell n _ h); rw [(g.wr _ hb).2.1] at e; cases e
    · rcases List.mem_cons.mp ho with rfl | ho
      · refine ⟨sOwn_ok g.sc, g.sp, fun b hb => .inl hb, fun b hb => ?_⟩
        rcases List.mem_cons.mp hb with rfl | hb
        · refine ⟨g.sb, F.hS, hph.2, fun q => ?_, F.hSC, fun n a h => ?_⟩
          · rcases List.mem_cons.mp q with q | q
            · exact F.hSC q
            · exact (hfr _ q).2 rfl
          · obtain ⟨o, e⟩ := hcellAl n _ (hcell n _ h); exact (alive _ _ e).2
        · cases hb
      · cases ho
  · refine List.pairwise_cons.mpr ⟨fun y hy b hb hb' => ?_, List.pairwise_singleton ..⟩
    rcases List.mem_cons.mp hy with rfl | hy
    · rcases List.mem_cons.mp hb' with rfl | hb'
      · exact g.sw hb
      · cases hb'
    · cases hy

theorem GSt.leave {ρ' : Rho} {ob' : Obj} (S' : St (gctx c scope C code s₁ hb₁ G A' n') ρ' [W i, sOwn S ob'] hb s) (hle : Le hb₅ hb) (hc : ob'.cls ≠ .type "code") : GSt c C S s₁ hb₁ G hb₅ W i ob' hb s := by
  obtain ⟨k1, k2, k3, k4⟩ := S'.own _ (List.mem_cons_self ..)
  obtain ⟨j1, j2, j3, j4⟩ := S'.own _ (List.mem_cons_of_mem _ (List.mem_cons_self ..))
  refine ⟨S'.ext, k2, S'.loc.1, S'.loc.2.1, k3, fun b hb => ⟨(k4 b hb).hb, (k4 b hb).s₀, (k4 b hb).loc⟩, hle, j2, (j4 S (List.mem_cons_self ..)).hb, fun q => ?_, hc⟩
  exact (List.pairwise_cons.mp S'.disj).1 _ (List.mem_cons_self ..) S q (List.mem_cons_self ..)

theorem GSt.setGen {g : Nat} {x : GenState} (hx : x.bare = true) (h : GSt c C S s₁ hb₁ G hb₅ W i ob hb s) : GSt c C S s₁ hb₁ G hb₅ W i ob hb (s.setGen g x) := by
  refine { h with ext := ⟨⟨h.ext.kp.keep, h.ext.kp.fr, h.ext.kp.tab, h.ext.kp.os, h.ext.kp.bare.trans ⟨fun hb => ?_, ?_⟩⟩, h.ext.le, h.ext.gr, h.ext.le'⟩ }
  · intro y hy
    obtain ⟨k, hk, rfl⟩ := Array.mem_iff_getElem.mp hy
    simp only [Shared.setGen, Array.size_setIfInBounds] at hk ⊢
    rw [Array.getElem_setIfInBounds]
    split
    · exact hx
    · exact hb _ (Array.getElem_mem hk)
    · exact hk
  · simp [Shared.setGen]
end

/-! ### the turns of the generator -/
theorem ItOk.stepS {w : World} {I : Value} {n : Nat} {hbI : Heap} {W : Nat → Own} {R : Nat → Heap → Value → Prop} (It : ItOk w I n hbI W R) {c : Ctx} (hc : c.w = w) {i : Nat} {s : Shared} {hb : Heap} {ρ : Rho} {O : List Own} (hi : i < n) (hle : Le hbI hb) (S : St c ρ (W i :: O) hb s) (E : Value → Shared → Prop) :
    wpAny (MM w) c.A (pyNext I) (fun r s' => ∃ v hb', r = some v ∧ Le hb hb' ∧ St c ρ (W (i + 1) :: O) hb' s' ∧ R i hb' v) E s := It.step c hc i s hb ρ O hi hle S E
theorem ItOk.doneS {w : World} {I : Value} {n : Nat} {hbI : Heap} {W : Nat → Own} {R : Nat → Heap → Value → Prop} (It : ItOk w I n hbI W R) {c : Ctx} (hc : c.w = w) {s : Shared} {hb : Heap} {ρ : Rho} {O : List Own} (hle : Le hbI hb) (S : St c ρ (W n :: O) hb s) (E : Value → Shared → Prop) :
    wpAny (MM w) c.A (pyNext I) (fun r s' => ∃ hb', r = none ∧ Le hb hb' ∧ St c ρ O hb' s') E s := It.done c hc s hb ρ O hle S E
theorem ItOk.selfS {w : World} {I : Value} {n : Nat} {hbI : Heap} {W : Nat → Own} {R : Nat → Heap → Value → Prop} (It : ItOk w I n hbI W R) {c : Ctx} (hc : c.w = w) {i : Nat} {s : Shared} {hb : Heap} {ρ : Rho} {O : List Own} (S : St c ρ (W i :: O) hb s) {E : Value → Shared → Prop} {Q : Value → Shared → Prop} (h : Q I s) :
    wpAny (MM w) c.A (pyIter I) Q E s := It.self c hc i s hb ρ O S E Q h
section
variable (c : Ctx) (C S : Addr) (s₁ : Shared) (hb₁ : Heap) (G : Array GenState) (W : Nat → Own) (hb₅ : Heap) (n : Nat) (g : Nat → Bool)
def PGen : Nat → Shared → Shared → Prop := fun m s₀ s' => m = 0 ∧ ∃ hb, Ext c.l { s₁ with gens := G } hb₁ s' hb ∧ ∀ ob, s₀.heap.get? S = some ob → s'.heap.get? S = some ob
def YGen : Protocol := fun m s₀ v s kap => ∃ i hb ob, m + 1 + i = n ∧ s₀.heap.get? S = some ob ∧ GSt c C S s₁ hb₁ G hb₅ W (i + 1) ob hb s ∧ V hb v (.py (.bool (g i))) ∧
  ∀ s'' hb'' ob'', GSt c C S s₁ hb₁ G hb₅ W (i + 1) ob'' hb'' s'' → kap (.send .none) s''
end

section
variable {c : Ctx} {ρ : Rho} {O : List Own} {scope : Scope} {ns : List Str} {C S : Addr} {s₁ : Shared} {hb₁ : Heap} {G : Array GenState} {W : Nat → Own} {hb₅ : Heap} {code : Value} {n : Nat} {g : Nat → Bool} {d : Nat → PyData}
  {it : Value} {R : Nat → Heap → Value → Prop} {elt iter : Expr} {x : Str} {px pos : Pos} {B : Around} {n' : Nat}

theorem seg_loop (F : GFix c ρ O scope ns C S s₁ hb₁ G W) (I : ItOk c.w it n hb₅ W R) (hR' : ∀ i hb v, i < n → R i hb v → V hb v (.py (d i))) (hx : scope.names.lookup x = some .local)
    (hR : Room n' (B.over (.compLoop (.GeneratorExp elt [⟨.Name x px, iter, [], 0⟩] scope pos) 0 it .none (gEnv c scope C code)) []) (gEnv c scope C code :: c.l))
    (helt : ∀ i O', i < n → EX (gctx c scope C code s₁ hb₁ G (B.over (.compLoop (.GeneratorExp elt [⟨.Name x px, iter, [], 0⟩] scope pos) 0 it .none (gEnv c scope C code)) []) n') (put (keepNames ns ρ) x (.py (d i))) O' elt (.py (.bool (g i)))) :
    ∀ (k i : Nat) (s₀ s : Shared) (hb : Heap) (ob : Obj), n - i = k → i ≤ n → GSt c C S s₁ hb₁ G hb₅ W i ob hb s → s₀.heap.get? S = some ob →
      Seg (model PW c.w) B (fun m s₀ r s' => r = .ok .next ∧ PGen c S s₁ hb₁ G m s₀ s') (YGen c C S s₁ hb₁ G W hb₅ n g) (n - i) s₀
        (.compLoop (.GeneratorExp elt [⟨.Name x px, iter, [], 0⟩] scope pos) 0 it .none (gEnv c scope C code))
        ((model PW c.w).den (.compLoop (.GeneratorExp elt [⟨.Name x px, iter, [], 0⟩] scope pos) 0 it .none (gEnv c scope C code))) [] s := by
  intro k
  induction k with
  | zero =>
    intro i s₀ s hb ob hk hi hst hob
    have hin : i = n := by omega
    subst hin
    show Seg _ B _ _ _ s₀ _ ((compTurn (.GeneratorExp elt [⟨.Name x px, iter, [], 0⟩] scope pos) 0 it .none (gEnv c scope C code)).onRaise (leaving (gEnv c scope C code))) [] s
    rw [compTurn_gen, Sem.onRaise_eq_wrap]
    refine seg_bind_wrap (wpAny_standAt ?_)
    have S' := hst.enter F (code := code) hR
    refine seg_bind_wrap (wpAny_mono (I.doneS (c := gctx c scope C code s₁ hb₁ G (B.over (.compLoop (.GeneratorExp elt [⟨.Name x px, iter, [], 0⟩] scope pos) 0 it .none (gEnv c scope C code)) []) n') rfl hst.le S' _) (fun r s' ⟨hb', hr, hle, S₂⟩ => ?_) fun _ _ e => e)
    subst hr
    refine seg_end (.ok .next) ⟨rfl, Nat.sub_self _, hb', S₂.ext, fun ob' h => ?_⟩
    rw [hob] at h; cases h
    exact (S₂.own _ (List.mem_cons_self ..)).2.1
  | succ k ih =>
    intro i s₀ s hb ob hk hi hst hob
    have hlt : i < n := by omega
    have hm : n - i = (n - (i + 1)) + 1 := by omega
    rw [hm]
    show Seg _ B _ _ _ s₀ _ ((compTurn (.GeneratorExp elt [⟨.Name x px, iter, [], 0⟩] scope pos) 0 it .none (gEnv c scope C code)).onRaise (leaving (gEnv c scope C code))) [] s
    rw [compTurn_gen, Sem.onRaise_eq_wrap]
    refine seg_bind_wrap (wpAny_standAt ?_)
    have S' := hst.enter F (code := code) hR
    refine seg_bind_wrap (wpAny_mono (I.stepS (c := gctx c scope C code s₁ hb₁ G (B.over (.compLoop (.GeneratorExp elt [⟨.Name x px, iter, [], 0⟩] scope pos) 0 it .none (gEnv c scope C code)) []) n') rfl hlt hst.le S' _) (fun r s' ⟨v, hb', hr, hle, S₂, hv⟩ => ?_) fun _ _ e => e)
    subst hr
    refine seg_bind_wrap (wpAny_of_eq (rfl : letOwnedTupleGo (.Name x px) it v = pure ()) ?_)
    refine seg_bind_wrap (wpAny_assign_Name (wpAny_mono (S₂.store (x := x) (stoL rfl hx) (hR' i hb' v hlt hv)) (fun _ s₃ S₃ => ?_) fun _ _ e => e))
    refine seg_bind_wrap ?_
    rw [List.forIn_nil]
    refine wpAny_pure ?_
    simp only [if_true]
    have hy : ∀ v, yieldOut (gEnv c scope C code) v = yieldValue v := fun v => by
      have hco : (gEnv c scope C code).scope.isCoroutine = false := F.co
      simp only [yieldOut, hco, Bool.false_eq_true, if_false]
    simp only [hy]
    rw [Sem.bind_eq_wrap', Sem.bind_eq_wrap', Sem.wrap_wrap, Sem.wrap_wrap]
    refine seg_wrap (wpx S₃ (helt i _ hlt) fun y s₄ hb₄ x₄ S₄ r₄ => ?_)
    have hle5 : Le hb₅ hb₄ := fun b o e => x₄.le b o (hle b o (hst.le b o e))
    refine seg_at (seg_yield rfl rfl rfl ⟨i, hb₄, ob, by omega, hob, GSt.leave S₄ hle5 hst.sc, r₄, fun s'' hb'' ob'' hst'' => ?_⟩)
    exact seg_again rfl (ih (i + 1) s'' s'' hb'' ob'' (by omega) hlt hst'' hst''.sp)

theorem seg_start (F : GFix c ρ O scope ns C S s₁ hb₁ G W) (I : ItOk c.w it n hb₅ W R) (hR' : ∀ i hb v, i < n → R i hb v → V hb v (.py (d i))) (hx : scope.names.lookup x = some .local)
    (hRs : Room n' (B.over (.compStart (.GeneratorExp elt [⟨.Name x px, iter, [], 0⟩] scope pos) 0 it .none (gEnv c scope C code)) []) (gEnv c scope C code :: c.l))
    (hR : Room n' (B.over (.compLoop (.GeneratorExp elt [⟨.Name x px, iter, [], 0⟩] scope pos) 0 it .none (gEnv c scope C code)) []) (gEnv c scope C code :: c.l))
    (helt : ∀ i O', i < n → EX (gctx c scope C code s₁ hb₁ G (B.over (.compLoop (.GeneratorExp elt [⟨.Name x px, iter, [], 0⟩] scope pos) 0 it .none (gEnv c scope C code)) []) n') (put (keepNames ns ρ) x (.py (d i))) O' elt (.py (.bool (g i))))
    (s : Shared) (hb : Heap) (ob : Obj) (hst : GSt c C S s₁ hb₁ G hb₅ W 0 ob hb s) :
    Seg (model PW c.w) B (fun m s₀ r s' => r = .ok .next ∧ PGen c S s₁ hb₁ G m s₀ s') (YGen c C S s₁ hb₁ G W hb₅ n g) n s
      (.compStart (.GeneratorExp elt [⟨.Name x px, iter, [], 0⟩] scope pos) 0 it .none (gEnv c scope C code))
      ((model PW c.w).den (.compStart (.GeneratorExp elt [⟨.Name x px, iter, [], 0⟩] scope pos) 0 it .none (gEnv c scope C code))) [] s := by
  have loop := seg_loop F I hR' hx hR helt n 0 s s hb ob (Nat.sub_zero _) (Nat.zero_le _) hst hst.sp
  rw [Nat.sub_zero] at loop
  have S' := hst.enter F (code := code) hRs
  show Seg _ B _ _ _ s _ ((compStart (.GeneratorExp elt [⟨.Name x px, iter, [], 0⟩] scope pos) 0 it .none (gEnv c scope C code)).onRaise (leaving (gEnv c scope C code))) [] s
  unfold compStart
  rw [Sem.onRaise_eq_wrap]
  show Seg _ B _ _ _ s _ ((ask >>= _).wrap _ _ _ _) [] s
  refine seg_bind_wrap (wpAny_askSetting ?_)
  split
  · exact seg_again rfl loop
  · refine seg_bind_wrap (wpAny_rule ?_)
    show Seg _ B _ _ _ s _ ((standAt iter.pos >>= _).wrap _ _ _ _) [] s
    exact seg_bind_wrap (wpAny_standAt (seg_bind_wrap (I.selfS (c := gctx c scope C code s₁ hb₁ G (B.over (.compStart (.GeneratorExp elt [⟨.Name x px, iter, [], 0⟩] scope pos) 0 it .none (gEnv c scope C code)) []) n') rfl S' (seg_again rfl loop))))
end
end Mine
end

/-! ## F49 -/
section
set_option maxRecDepth 100000
namespace Mine

def cnt (g : Nat → Bool) : Nat → Int
  | 0 => 0
  | k + 1 => cnt g k + if g k then 1 else 0
theorem cnt_bounds (g : Nat → Bool) : ∀ k : Nat, 0 ≤ cnt g k ∧ cnt g k ≤ k
  | 0 => by simp [cnt]
  | k + 1 => by
    have := cnt_bounds g k
    rw [cnt]
    split <;> omega

theorem room_over {n : Nat} {A : Around} {l : List Env} {code : Code} {e : Env} (R : Room (n + 1) A l) (h1 : code.envs = [e]) (h2 : code.weight = 1) (h3 : code.cUnits = 3) : Room n (A.in1.in1.over code []) (e :: l) := by
  refine ⟨R.han, ?_, ?_, ?_⟩
  · show pushEnvs code.envs A.frames = _
    rw [h1, R.fr]; rfl
  · show A.depth + 0 + code.weight + n < _
    have := R.dep; rw [h2]; omega
  · show A.units + 1 + 1 + 0 + code.cUnits + 16 * n + 80 < _
    have := R.un; rw [h3]; omega

section
variable {c : Ctx} {ρ : Rho} {O : List Own} {scope : Scope} {ns : List Str} {C S : Addr} {s₁ : Shared} {hb₁ : Heap} {G : Array GenState} {W : Nat → Own} {hb₅ : Heap} {code : Value} {n : Nat} {g : Nat → Bool} {a : Addr} {gn : Nat}

def GoesAt (c : Ctx) (C S : Addr) (s₁ : Shared) (hb₁ : Heap) (G : Array GenState) (W : Nat → Own) (hb₅ : Heap) (n : Nat) (g : Nat → Bool) (gn : Nat) (A : Around) (i : Nat) (s : Shared) : Prop :=
  ∃ gs, s.gens[gn]? = some gs ∧ ∀ (s'' : Shared) hb'' ob'', GSt c C S s₁ hb₁ G hb₅ W i ob'' hb'' s'' →
    gs.Goes (model PW c.w) A.in1 (fun m s₀ r s' => r = .ok .next ∧ PGen c S s₁ hb₁ G m s₀ s') (YGen c C S s₁ hb₁ G W hb₅ n g) (n - i) (.send .none) s''

theorem gen_item {A : Around} {E : Value → Shared → Prop} {Q : Option Value → Shared → Prop} {i : Nat} {ob : Obj} {hb : Heap} {s : Shared} (hh : A.handled = none) (hdep : A.depth < recursionLimit) (F : GFix c ρ O scope ns C S s₁ hb₁ G W) (hgen : hb₅.IsGen a gn) (hgn : gn < G.size)
    (hst : GSt c C S s₁ hb₁ G hb₅ W i ob hb s) (hi : i < n) (hgo : GoesAt c C S s₁ hb₁ G W hb₅ n g gn A i s)
    (hQ : ∀ v s' hb', GSt c C S s₁ hb₁ G hb₅ W (i + 1) ob hb' s' → V hb' v (.py (.bool (g i))) → GoesAt c C S s₁ hb₁ G W hb₅ n g gn A (i + 1) s' → Q (some v) s') : wpAny (model PW c.w) A (pyNext (.ref a)) Q E s := by
  obtain ⟨gs, hgs, hgo⟩ := hgo
  have St := hst.outer F
  have hl : s.heap.NoLimit := St.base.gd.lim.keeps St.base.le
  have hg : s.heap.IsGen a gn := hgen.keeps fun b o e => St.base.le b o (hst.le b o e)
  have hm : n - i = (n - (i + 1)) + 1 := by omega
  have hgo' := hgo (s.setGen gn .running) hb ob (hst.setGen rfl)
  rw [hm] at hgo'
  refine wpAny_pyNext_genexpQ (P := PGen c S s₁ hb₁ G) hh hl hdep hg hgs hgo' (fun v s₁' gs' hbare hY => ?_) (fun s₁' hp h' hk => ?_)
  · obtain ⟨i', hb', ob', e1, e2, e3, e4, e5⟩ := hY
    have e : i' = i := by omega
    subst e
    have e : ob' = ob := by
      have := hst.sp
      rw [show (s.setGen gn .running).heap = s.heap from rfl, this] at e2
      exact (Option.some.inj e2).symm
    subst e
    have hsz : gn < s₁'.gens.size := Nat.lt_of_lt_of_le hgn e3.ext.kp.bare.size
    refine hQ v _ hb' (e3.setGen hbare) e4 ⟨gs', setGen_self (Array.getElem?_eq_getElem hsz), fun s'' hb'' ob'' h'' => ?_⟩
    exact e5 s'' hb'' ob'' h''
  · exact absurd hp.1 (Nat.succ_ne_zero _)

theorem gen_done {A : Around} {E : Value → Shared → Prop} {Q : Option Value → Shared → Prop} {ob : Obj} {hb : Heap} {s : Shared} (hh : A.handled = none) (hdep : A.depth < recursionLimit) (F : GFix c ρ O scope ns C S s₁ hb₁ G W) (hgen : hb₅.IsGen a gn)
    (hst : GSt c C S s₁ hb₁ G hb₅ W n ob hb s) (hgo : GoesAt c C S s₁ hb₁ G W hb₅ n g gn A n s)
    (hQ : ∀ s' hb', Ext c.l s₁ hb₁ s' hb' → s'.heap.get? S = some ob → Q none s') : wpAny (model PW c.w) A (pyNext (.ref a)) Q E s := by
  obtain ⟨gs, hgs, hgo⟩ := hgo
  have St := hst.outer F
  have hl : s.heap.NoLimit := St.base.gd.lim.keeps St.base.le
  have hg : s.heap.IsGen a gn := hgen.keeps fun b o e => St.base.le b o (hst.le b o e)
  have hgo' := hgo (s.setGen gn .running) hb ob (hst.setGen rfl)
  rw [Nat.sub_self] at hgo'
  refine wpAny_pyNext_genexpQ (P := PGen c S s₁ hb₁ G) hh hl hdep hg hgs hgo' (fun v s₁' gs' hbare hY => ?_) (fun s₁' hp h' hk => ?_)
  · obtain ⟨i', hb', ob', e1, e2, e3, e4, e5⟩ := hY
    exact (e5 s₁' hb' ob' e3).elim
  · obtain ⟨_, hb', X, hS⟩ := hp
    have hbare : GK s₁'.gens (s₁'.setGen gn .finished).gens := by
      refine ⟨fun hb y hy => ?_, by simp [Shared.setGen]⟩
      obtain ⟨k, hk, rfl⟩ := Array.mem_iff_getElem.mp hy
      simp only [Shared.setGen, Array.size_setIfInBounds] at hk ⊢
      rw [Array.getElem_setIfInBounds]
      split
      · rfl
      · exact hb _ (Array.getElem_mem hk)
      · exact hk
    refine hQ _ hb' ⟨⟨fun b o h1 h2 e => hk b o (X.kp.keep b o h1 h2 e), fun b h1 h2 o e => ?_, fun t => (X.kp.tab t).keeps hk, X.kp.os, (F.hG.trans X.kp.bare).trans hbare⟩, X.le, X.gr, fun b o e => hk b o (X.le' b o e)⟩ (hk _ _ (hS ob hst.sp))
    obtain ⟨sl, e'⟩ := X.kp.fr b h1 h2 o e
    exact ⟨sl, hk _ _ e'⟩

theorem GSt.write {i : Nat} {ob ob' : Obj} {hb : Heap} {s : Shared} {A' : Around} {n' : Nat} (F : GFix c ρ O scope ns C S s₁ hb₁ G W) (hst : GSt c C S s₁ hb₁ G hb₅ W i ob hb s) (hR : Room n' A' (gEnv c scope C code :: c.l)) {s' : Shared}
    (hk : ∀ b o, b ≠ S → s.heap.get? b = some o → s'.heap.get? b = some o) (ho : s'.os = s.os) (hg : GK s.gens s'.gens) (hp : s'.heap.get? S = some ob') (hc : ob'.cls ≠ .type "code") : GSt c C S s₁ hb₁ G hb₅ W i ob' hb s' := by
  have S' := (hst.enter F (code := code) hR).swap
  have S'' := S'.write_own (o₂ := sOwn S ob') s' (fun b o hb e => hk b o (fun q => hb (q ▸ List.mem_cons_self ..)) e) ho hg (sOwn_ok hc) hp (fun b h => h) fun b h => .inl h
  exact GSt.leave S''.swap hst.le hc

def lobj (v : Int) (t : Tok) (k : Nat) : Obj := { cls := .type "list", dict := none, data := .seq #[.int v t] k, slots := #[] }

theorem sum_gen_loop {A A' : Around} {n' : Nat} {R : Result → Shared → Prop} (hh : A.handled = none) (hdep : A.depth < recursionLimit) (F : GFix c ρ O scope ns C S s₁ hb₁ G W) (hgen : hb₅.IsGen a gn) (hgn : gn < G.size) (hR : Room n' A' (gEnv c scope C code :: c.l)) (hn : n ≤ 100000)
    (hfin : ∀ s' hb' t', Ext c.l s₁ hb₁ s' hb' → R (.ok (.ret (.int (cnt g n) t'))) s') : ∀ (k i : Nat) (s : Shared) (hb : Heap) (t : Tok) (kk : Nat), n - i = k → i ≤ n → GSt c C S s₁ hb₁ G hb₅ W i (lobj (cnt g i) t kk) hb s → GoesAt c C S s₁ hb₁ G W hb₅ n g gn A.in1 i s →
      codeAny (model PW c.w) A (.builtin "sum.loop" ⟨[.ref a, .ref S, rawInt 0, rawInt 0], []⟩) R s := by
  intro k
  induction k with
  | zero =>
    intro i s hb t kk hk hi hst hgo
    have hin : i = n := by omega
    subst hin
    refine codeAny_builtin PySem.F.entry_sum_loop ?_
    rw [Around.under_plainId PySem.F.plain_sum_loop _]
    show wpAny _ A.in1 (seqItems? (.ref S) >>= _) _ _ s
    refine wpAny_bind (wpAny_seqItems hst.sp rfl ?_)
    show wpAny _ A.in1 (tryCatch (pyNext (.ref a)) _ >>= _) _ _ s
    refine wpAny_bind (wpAny_tryCatch (gen_done (A := A.in1) hh hdep F hgen hst hgo fun s' hb' X hS => ?_))
    exact wpAny_pure (hfin s' hb' t X)
  | succ k ih =>
    intro i s hb t kk hk hi hst hgo
    have hlt : i < n := by omega
    refine codeAny_builtin PySem.F.entry_sum_loop ?_
    rw [Around.under_plainId PySem.F.plain_sum_loop _]
    show wpAny _ A.in1 (seqItems? (.ref S) >>= _) _ _ s
    refine wpAny_bind (wpAny_seqItems hst.sp rfl ?_)
    show wpAny _ A.in1 (tryCatch (pyNext (.ref a)) _ >>= _) _ _ s
    refine wpAny_bind (wpAny_tryCatch (gen_item (A := A.in1) hh hdep F hgen hgn hst hlt hgo fun v s' hb' hst' hv hgo' => ?_))
    obtain rfl := hv.bool_inv
    have hb2 := cnt_bounds g i
    have hb3 : (0 : Int) ≤ (if g i then 1 else 0) ∧ (if g i then 1 else 0 : Int) ≤ 1 := by split <;> omega
    have hc : ((decide (-(2 ^ 63) ≤ (if g i then 1 else 0 : Int)) && decide ((if g i then 1 else 0 : Int) < 2 ^ 63)) && (decide (-(2 ^ 63) ≤ cnt g i + (if g i then 1 else 0)) && decide (cnt g i + (if g i then 1 else 0) < 2 ^ 63))) = true := by
      simp only [Bool.and_eq_true, decide_eq_true_eq]
      omega
    show wpAny _ A.in1 (if (_ : Bool) = true then (mkInt (cnt g i + if g i then 1 else 0) >>= _) else _) _ _ _
    have e1 : cnt g (i + 1) = cnt g i + if g i then 1 else 0 := rfl
    generalize (if g i = true then (1 : Int) else 0) = bi at hb3 hc e1 ⊢
    split
    · refine wpAny_bind (wpAny_mkInt ?_)
      show wpAny _ A.in1 (updateSeq S (fun _ => #[.int (cnt g i + bi) s'.toks]) >>= _) _ _ _
      refine wpAny_bind ?_
      refine wpAny_updateSeq hst'.sp rfl (wpAny_pure ⟨plainId_quiet PySem.F.plain_sum_loop _, ?_⟩)
      obtain ⟨gs, hgs, hgo2⟩ := hgo'
      have hnew := Heap.get?_update_self (Obj.mapSeq fun _ => #[Value.int (cnt g i + bi) s'.toks]) hst'.sp rfl
      rw [← e1] at hnew ⊢
      refine ih (i + 1) _ hb' s'.toks _ (by omega) hlt (hst'.write (ob' := lobj (cnt g (i + 1)) s'.toks _) F hR (fun b o hb e => ?_) rfl gid hnew (by simp [lobj])) ⟨gs, hgs, hgo2⟩
      exact (Heap.get?_update_other _ _ (Ne.symm hb)).trans e
    · rename_i hneg
      exact absurd hc hneg
end
end Mine
end

/-! ## F50 -/
section
set_option maxRecDepth 100000
namespace Mine

theorem ItOk.up {w : World} {I : Value} {n : Nat} {hbI hb' : Heap} {W : Nat → Own} {R : Nat → Heap → Value → Prop} (It : ItOk w I n hbI W R) (k : Le hbI hb') : ItOk w I n hb' W R :=
  ⟨fun c' hc i s hb ρ O hi hle S E => It.step c' hc i s hb ρ O hi (fun b o e => hle b o (k b o e)) S E, fun c' hc s hb ρ O hle S E => It.done c' hc s hb ρ O (fun b o e => hle b o (k b o e)) S E, It.self⟩

section
variable {c : Ctx} {ρ : Rho} {O : List Own}
theorem EX.sumGen {sx x : Str} {p px pos cpos : Pos} {elt iter : Expr} {scope : Scope} (ns : List Str) {T : String} {n : Nat} {R : Nat → Heap → Value → Prop} {d : Nat → PyData} {g : Nat → Bool} (hname : EX c ρ O (.Name sx p) (.raw (.builtin "sum")))
    (hit : JX c ρ O (eval iter c.env) T n R) (hR' : ∀ i hb v, i < n → R i hb v → V hb v (.py (d i))) (hcode : c.env.code = .ref CH) (hq : c.env.qual ++ "<genexpr>" = geQual) (hp : pos = gePos)
    (hvis : ∀ y ∈ ns, VisG c scope y) (hn : n ≤ 100000) (hcn : 1 ≤ c.n)
    (helt : ∀ C code s₁ hb₁ G A' n' i O', c.n = n' + 1 → i < n → EX (gctx c scope C code s₁ hb₁ G A' n') (put (keepNames ns ρ) x (.py (d i))) O' elt (.py (.bool (g i))))
    (hfree : scope.names.all (fun x => x.2 != .free || (c.env.cells.lookup x.1).isSome) = true := by rfl) (hkind : scope.kind = .function := by rfl) (hco : scope.isCoroutine = false := by rfl) (hcell : ∀ y ∈ scope.names, y.2 ≠ .cell := by decide)
    (h0 : scope.names.lookup (".0" : Str) = some NameKind.local := by rfl) (hx : scope.names.lookup x = some .local := by rfl) (hs : ∀ x, genFold iter c.env x = pure x := by intro _; rfl) :
    EX c ρ O (.Call (.Name sx p) [.GeneratorExp elt [⟨.Name x px, iter, [], 0⟩] scope pos] [] cpos) (.py (.int (cnt g n))) := by
  intro s hb S E
  obtain ⟨n', hn'⟩ : ∃ n', c.n = n' + 1 := ⟨c.n - 1, by omega⟩
  have hroom := S.ok.room
  rw [hn'] at hroom
  have hh := hroom.han
  have hdep : c.A.depth < recursionLimit := by have := hroom.dep; omega
  refine wpAny_Call_Name_kw (wpx S hname fun v s₁ hb₁ x₁ S₁ r₁ => ?_)
  cases r₁
  rw [show starEach [Expr.GeneratorExp elt [⟨.Name x px, iter, [], 0⟩] scope pos] c.env = [(false, eval (.GeneratorExp elt [⟨.Name x px, iter, [], 0⟩] scope pos) c.env)] from rfl]
  refine callWith_gen (Calls.evalArgs_plain (Calls.spliced_cons ?_))
  refine wpAny_GeneratorExp_make hco (closureFor_eq hfree) hcell h0 hkind hdep ?_ hs
  refine wpAny_mono (hit s₁ hb₁ S₁ E) (fun itv s₂ ⟨hb₂, W, za, hia, X, I, hok, hp0, hfp, hwr, hT, haw⟩ => ?_) fun _ _ e => e
  have S₂ : St c ρ (W 0 :: O) hb₂ s₂ := St.take S₁ (S₁.step X) (hok 0) hp0 hfp (fun b h => (hwr b h).1) (fun b h => (hwr b h).2)
  refine I.selfS rfl S₂ ?_
  refine ⟨S₂.base.gd.lim.keeps S₂.base.le, ?_⟩
  refine S₂.genCode hcode hq hp fun code s₃ x₃ => ?_
  have S₃ := S₂.step x₃
  have X₂ := X.trans S₁.base x₃
  obtain ⟨mg, bm, ob, M⟩ := S₃.base.gd.bm
  refine wpAny_builtinsFor (by rw [S₃.ok.glob]; exact M.ns.keeps S₃.base.le) M.name M.ne (S₃.base.le _ _ M.obj) M.cls M.dict M.data ?_
  intro h' hns hsb
  have hCn : s₃.heap.get? s₃.heap.objs.size = none := fresh_size _
  have hz : h'.objs.size = s₃.heap.objs.size + 1 := by rw [hsb.1, Heap.size_push]
  have hle₄ : Le s₃.heap h' := fun b o e => hsb.extBut b o (Nat.ne_of_lt (Heap.lt_size e)) (Heap.get?_push_of_some _ e)
  refine Calls.spliced_nil ⟨⟨_, .of_pure rfl⟩, ?_⟩
  -- sum is called
  show wpAny _ _ (call (.builtin "sum") [.ref h'.objs.size]) _ _ _
  refine call_function_tree PySem.F.kind_sum PySem.F.plain_sum PySem.F.entry_sum (PySem.F.args_sum1 _) ?_
  unfold Builtin.«sum»
  simp only [List.length_cons, List.length_nil]
  rw [if_neg (by decide)]
  refine wpAny_bind (wpAny_of_eq (show Builtin.Builtins.bindParams "sum" ["start"] 0 { } = pure [none] from rfl) ?_)
  generalize hgo : ({ cls := .type "generator", data := .fields #[.int s₃.gens.size 0, .str "<genexpr>" (s₃.toks + 1), .str (c.env.qual ++ "<genexpr>") (s₃.toks + 1 + 1)] } : Obj) = gobj
  have hgen₅ : (h'.push gobj).IsGen h'.objs.size s₃.gens.size := by
    rw [← hgo]; exact ⟨_, _, _, Heap.get?_push_size _ rfl, rfl, rfl, rfl⟩
  have hgobj : (h'.push gobj).get? h'.objs.size = some gobj := by rw [← hgo]; exact Heap.get?_push_size _ rfl
  refine wpAny_bind (wpAny_pyIter_gen hgen₅ ?_)
  refine wpAny_bind (wpAny_mkInt ?_)
  refine wpAny_bind (wpAny_pure ?_)
  simp only [List.forIn_cons, List.forIn_nil]
  refine wpAny_bind (wpAny_bind (wpAny_bind (wpAny_isInstance (T := "int") (b := false) (typeIs_int _ _ _) PySem.sub_int_str ?_)))
  simp only [Bool.false_eq_true, if_false]
  refine wpAny_pure (wpAny_bind (wpAny_bind (wpAny_isInstance (T := "int") (b := false) (typeIs_int _ _ _) PySem.sub_int_bytes ?_)))
  simp only [Bool.false_eq_true, if_false]
  refine wpAny_pure (wpAny_bind (wpAny_bind (wpAny_isInstance (T := "int") (b := false) (typeIs_int _ _ _) PySem.sub_int_bytearray ?_)))
  simp only [Bool.false_eq_true, if_false]
  refine wpAny_pure (wpAny_pure ?_)
  refine wpAny_bind (wpAny_newObj_type ?_)
  generalize hG : s₃.gens.push (.fresh (.compStart (.GeneratorExp elt [⟨.Name x px, iter, [], 0⟩] scope pos) 0 itv .none (genEnv scope (clos c.env.cells scope.names []) s₃.heap.objs.size code builtinsNs c.env))) = G
  have hz5 : (h'.push gobj).objs.size = s₃.heap.objs.size + 1 + 1 := by rw [Heap.size_push, hz]
  have hle₅ : Le s₃.heap (h'.push gobj) := fun b o e => Heap.get?_push_of_some _ (hle₄ b o e)
  have hle₆ : ∀ o6, Le s₃.heap ((h'.push gobj).push o6) := fun o6 b o e => Heap.get?_push_of_some _ (hle₅ b o e)
  have hGK : GK s₃.gens G := by
    rw [← hG]
    refine ⟨fun hb y hy => ?_, by simp⟩
    rcases Array.mem_push.mp hy with hy | rfl
    · exact hb y hy
    · rfl
  have hsz3 : s₃.gens.size < G.size := by rw [← hG]; simp
  refine wpAny_pure ⟨plainId_quiet PySem.F.plain_sum_loop _, ?_⟩
  dsimp only
  have hCS : s₃.heap.objs.size ≤ (h'.push gobj).objs.size := by rw [hz5]; exact Nat.le_succ_of_le (Nat.le_succ _)
  have hSn : s₃.heap.get? (h'.push gobj).objs.size = none := fresh_ge hCS
  have hSC : (h'.push gobj).objs.size ≠ s₃.heap.objs.size := by rw [hz5]; exact Nat.ne_of_gt (Nat.lt_succ_of_lt (Nat.lt_succ_self _))
  have hSa : (h'.push gobj).objs.size ≠ h'.objs.size := by rw [Heap.size_push]; exact Nat.succ_ne_self _
  have haC : s₃.heap.objs.size ≠ h'.objs.size := by rw [hz]; exact Nat.ne_of_lt (Nat.lt_succ_self _)
  have han : s₃.heap.get? h'.objs.size = none := fresh_ge (by rw [hz]; exact Nat.le_succ _)
  have ha₁ : s₁.heap.get? h'.objs.size = none := X₂.kp.none S₁.base.tab han
  have hb₂n : ∀ b, s₃.heap.get? b = none → hb₂.get? b = none := fun b h => by
    cases e : hb₂.get? b with
    | none => rfl
    | some o => rw [S₃.base.le _ _ e] at h; cases h
  have hgenAny : ∀ h : Heap, h.get? h'.objs.size = some gobj → h.IsGen h'.objs.size s₃.gens.size := fun h e => by
    rw [← hgo] at e; exact ⟨_, _, _, e, rfl, rfl, rfl⟩
  have p3 : (W 0).p s₃.heap := (S₃.own _ (List.mem_cons_self ..)).2.1
  have hlow : ∀ b ∈ (W 0).wr, b < s₃.heap.objs.size := fun b hb => by
    obtain ⟨ob, e, _⟩ := (hok 0).live _ p3 b hb; exact Heap.lt_size e
  have K6 : Kp c.l s₃ { s₃ with heap := (h'.push gobj).push { cls := .type "list", data := .seq #[.int 0 (s₃.toks + 1 + 1 + 1)] }, gens := G, toks := s₃.toks + 1 + 1 + 1 + 1 } := .of_le (hle₆ _) rfl hGK
  have X6 := X₂.trans S₁.base (.same S₃.base K6)
  obtain ⟨X7, k7⟩ := X6.add ha₁
  have nn : ∀ b, b ≠ h'.objs.size → hb₂.get? b = none → (addH hb₂ h'.objs.size ((h'.push gobj).push { cls := .type "list", data := .seq #[.int 0 (s₃.toks + 1 + 1 + 1)] })).get? b = none := fun b h1 h2 => only_none (by
    rintro (⟨o, e⟩ | e)
    · rw [h2] at e; cases e
    · exact h1 e)
  have hga : (addH hb₂ h'.objs.size ((h'.push gobj).push { cls := .type "list", data := .seq #[.int 0 (s₃.toks + 1 + 1 + 1)] })).get? h'.objs.size = some gobj := only_get.mpr ⟨.inr rfl, Heap.get?_push_of_some _ hgobj⟩
  have F : GFix c ρ O scope ns s₃.heap.objs.size (h'.push gobj).objs.size s₁ hb₁ G W :=
    ⟨S₁, X6.kp.bare, hok, X₂.kp.none S₁.base.tab hCn, X₂.kp.none S₁.base.tab hSn, hSC, hfree, hkind, hco, hvis⟩
  have hR := room_over (code := .compLoop (.GeneratorExp elt [⟨.Name x px, iter, [], 0⟩] scope pos) 0 itv .none (gEnv c scope s₃.heap.objs.size code)) (e := gEnv c scope s₃.heap.objs.size code) hroom rfl rfl rfl
  have hRs := room_over (code := .compStart (.GeneratorExp elt [⟨.Name x px, iter, [], 0⟩] scope pos) 0 itv .none (gEnv c scope s₃.heap.objs.size code)) (e := gEnv c scope s₃.heap.objs.size code) hroom rfl rfl rfl
  refine sum_gen_loop (A := c.A) hh hdep F (hgenAny _ hga) hsz3 hR hn (g := g) (fun s' hb' t' X' => ⟨hb', x₁.trans S.base X', V.int⟩) n 0 _ (addH hb₂ h'.objs.size ((h'.push gobj).push { cls := .type "list", data := .seq #[.int 0 (s₃.toks + 1 + 1 + 1)] })) (s₃.toks + 1 + 1 + 1) 0 (Nat.sub_zero _) (Nat.zero_le _) ?_ ?_
  · refine ⟨⟨⟨X7.kp.keep, X7.kp.fr, X7.kp.tab, X7.kp.os, gid⟩, X7.le, X7.gr, X7.le'⟩, (hok 0).frame _ _ p3 (fun b _ o e => hle₆ _ b o e), ⟨_, (hns.push _).push _⟩, nn _ haC (hb₂n _ hCn), (fun b hb => (hfp b hb).imp id fun ⟨o, e⟩ => ⟨o, k7 _ _ e⟩),
      (fun b hb => ⟨nn b (Nat.ne_of_lt (by rw [hz]; exact Nat.lt_succ_of_lt (hlow b hb))) (hwr b hb).2, (hwr b hb).1, Nat.ne_of_lt (hlow b hb)⟩), (fun _ _ e => e), Heap.get?_push_size _ rfl, nn _ hSa (hb₂n _ hSn), (fun q => ?_), (by simp [lobj])⟩
    exact Nat.lt_irrefl _ (Nat.lt_of_lt_of_le (hlow _ q) hCS)
  · refine ⟨.fresh (.compStart (.GeneratorExp elt [⟨.Name x px, iter, [], 0⟩] scope pos) 0 itv .none (gEnv c scope s₃.heap.objs.size code)), by show G[s₃.gens.size]? = _; rw [← hG]; exact Array.getElem?_push_size .., fun s'' hb'' ob'' h'' => ⟨rfl, ?_⟩⟩
    exact seg_start F (I.up k7) hR' hx hRs hR (fun i O' hi => helt _ _ _ _ _ _ n' i O' hn' hi) s'' hb'' ob'' h''
end
end Mine
end

/-! ## F51 -/
section
set_option maxRecDepth 100000
namespace Mine

section
variable {c : Ctx} {ρ : Rho} {O : List Own} {hb : Heap} {s : Shared}
/-- a local name has been written -/
theorem St.localWritten (S : St c ρ O hb s) {x : Str} {v : Value} {d : D} {m : Str → Option Value} {h' : Heap} (hw : c.wl = true) (hx : c.env.kindOf x = some .local) (hv : V hb v d) (hm : s.heap.Ns c.env.locals m)
    (hn : h'.Ns c.env.locals (fun y => if y = x then some v else m y)) (hs : Heap.SameBut c.env.locals s.heap h') : St c (put ρ x d) O hb { s with heap := h' } := by
  obtain ⟨_, hL, hL0'⟩ := S.loc
  have hL0 := hL0' hw
  have hk : ∀ b o, b ≠ c.env.locals → s.heap.get? b = some o → h'.get? b = some o := fun b o h e => (hs.2 b h).trans e
  refine S.mod _ (fun b => b = c.env.locals) hk rfl gid (by rintro b rfl; exact ⟨hL, hL0, S.loc_ne, S.ncode_loc⟩) ?_ ?_ ⟨_, hn⟩ ?_ ?_ S.disj
  · intro b hb
    by_cases h : b = c.env.locals
    · subst h; exact ⟨_, hn⟩
    · obtain ⟨_, _, m', h3⟩ := S.base.fr b hb; exact ⟨m', h3.at' fun o e => hk b o h e⟩
  · intro y d' hy
    unfold put at hy
    by_cases h : y = x
    · subst h; rw [if_pos rfl] at hy; cases hy
      exact ⟨v, .inl ⟨hx, _, hn, by simp⟩, hv⟩
    · rw [if_neg h] at hy
      obtain ⟨u, hs', hu⟩ := S.env y d' hy
      refine ⟨u, ?_, hu⟩
      rcases hs' with ⟨h1, m', h2, h3⟩ | ⟨h1, cc, h2, h3⟩
      · refine .inl ⟨h1, _, hn, ?_⟩
        have : m' y = m y := by
          obtain ⟨o1, es1, ep1, g1, d1, _, f1⟩ := h2
          obtain ⟨o2, es2, ep2, g2, d2, _, f2⟩ := hm
          rw [g1] at g2; cases g2; rw [d1] at d2; cases d2
          rw [← f1, ← f2]
        simp only [if_neg h]; rw [← this]; exact h3
      · refine .inr ⟨h1, cc, h2, ?_⟩
        obtain ⟨o, e, dd⟩ := h3
        exact ⟨o, hk cc o (S.cells y cc h2).1 e, dd⟩
  · intro n a h
    obtain ⟨h1, _, ⟨u, o, e, dd⟩, _⟩ := S.cells n a h
    exact ⟨u, o, hk a o h1 e, dd⟩
  · intro o ho
    obtain ⟨h1, h2, h3, h4⟩ := S.own o ho
    refine ⟨h1, h1.frame _ _ h2 fun b hb ob e => hk b ob ?_ e, h3, h4⟩
    rintro rfl
    rcases h3 _ hb with h | ⟨ob', h⟩
    · exact (h4 _ h).loc rfl
    · rw [hL] at h; cases h

/-- a block that is over is forgotten -/
theorem St.forget (S : St c ρ O hb s) {C : Addr} {m : Str → Option Value} {h' : Heap} (hC : hb.get? C = none) (h0 : c.s₀.heap.get? C = none) (hfr : C ∉ fra c.l) (hloc : C ≠ c.env.locals) (hcell : ∀ n a, c.env.cells.lookup n = some a → a ≠ C) (hown : ∀ o ∈ O, C ∉ o.wr)
    (hns : s.heap.Ns C m) (hs : Heap.SameBut C s.heap h') : St c ρ O hb { s with heap := h' } := by
  have hk : ∀ b o, b ≠ C → s.heap.get? b = some o → h'.get? b = some o := fun b o h e => (hs.2 b h).trans e
  refine S.mod _ (fun b => b = C) hk rfl gid ?_ ?_ ?_ ?_ ?_ ?_ S.disj
  · rintro b rfl
    refine ⟨hC, h0, ?_, ?_⟩
    · rintro rfl; obtain ⟨ps, e⟩ := S.ok.tab₀.obj; rw [h0] at e; cases e
    · rintro o e ⟨_, vs, t, h1, _⟩
      obtain ⟨o', es, ep, e', d, _⟩ := hns
      rw [e] at e'; cases e'; rw [h1] at d; cases d
  · intro b hb
    obtain ⟨_, _, m', h3⟩ := S.base.fr b hb
    exact ⟨m', h3.at' fun o e => hk b o (fun h => hfr (h ▸ hb)) e⟩
  · intro y d' hy
    obtain ⟨u, hs', hu⟩ := S.env y d' hy
    refine ⟨u, ?_, hu⟩
    rcases hs' with ⟨h1, m', h2, h3⟩ | ⟨h1, cc, h2, h3⟩
    · exact .inl ⟨h1, m', h2.at' fun o e => hk _ o (Ne.symm hloc) e, h3⟩
    · refine .inr ⟨h1, cc, h2, ?_⟩
      obtain ⟨o, e, dd⟩ := h3
      exact ⟨o, hk cc o (hcell y cc h2) e, dd⟩
  · obtain ⟨⟨m', h1⟩, _⟩ := S.loc
    exact ⟨m', h1.at' fun o e => hk _ o (Ne.symm hloc) e⟩
  · intro n a h
    obtain ⟨h1, _, ⟨u, o, e, dd⟩, _⟩ := S.cells n a h
    exact ⟨u, o, hk a o (hcell n a h) e, dd⟩
  · intro o ho
    obtain ⟨h1, h2, h3, h4⟩ := S.own o ho
    refine ⟨h1, h1.frame _ _ h2 fun b hb ob e => hk b ob ?_ e, h3, h4⟩
    rintro rfl
    rcases h3 _ hb with h | ⟨ob', h⟩
    · exact hown o ho h
    · rw [hC] at h; cases h

/-- y = [a comprehension], on one row -/
theorem SB.assignComp {scope : Scope} (ns : List Str) {elt iter : Expr} {x y : Str} {px py pos spos : Pos} {rest : List Stmt} {K : Out → Prop} {ds : List D} {g : Nat → PyData} {xs : List PyData}
    (hit : IX c ρ O (eval iter c.env) ds.length (Items ds)) (hn : ds.length ≤ 100000)
    (helt : ∀ C s hb O i d, ds[i]? = some d → EX (cctx c scope C s hb) (put (keepNames ns ρ) x d) O elt (.py (g i)))
    (hy : c.wl = true ∧ c.env.kindOf y = some .local) (hxs : xs = (List.range ds.length).map g) (hK : SB c (put ρ y (.py (.list xs))) O rest K)
    (hsw : swapsWith (.ListComp elt [⟨.Name x px, iter, [], 0⟩] scope pos) (some (.Name y py)) spos.line c.env = pure true := by rfl)
    (hfree : scope.names.all (fun x => x.2 != .free || (c.env.cells.lookup x.1).isSome) = true := by rfl) (hkind : scope.kind = .function := by rfl) (hnames : ∀ x ∈ scope.names, x.2 = .local → scope.names.lookup x.1 = some .local := by decide)
    (hvis : ∀ y ∈ ns, Vis c scope y) (hx : ∀ C s hb, Sto (cctx c scope C s hb) x)
    (hs : ∀ x, foldedSetIterable iter c.env x = pure x := by intro _; rfl) :
    SB c ρ O (.Assign [.Name y py] (.ListComp elt [⟨.Name x px, iter, [], 0⟩] scope pos) spos :: rest) K := by
  intro s hb S E
  refine wpAny_execs_cons ?_
  rw [exec_Assign_Name_used _ _ _ _ hsw]
  refine wpAny_bind (wpAny_standAt (wpAny_bind ?_))
  show wpAny _ _ (do let _ ← comprehension (.ListComp elt [⟨.Name x px, iter, [], 0⟩] scope pos) scope c.env _ (newList []) false (eval iter c.env) (some (PySem.assign (.Name y py) c.env))) _ _ s
  refine wpAny_bind (wpAny_mono (wpAny_comprehension_free (use := some (PySem.assign (.Name y py) c.env)) (Q := fun _ s' => ∃ hb', Le hb hb' ∧ St c (put ρ y (.py (.list xs))) O hb' s') rfl hs (closureFor_eq hfree) hkind hnames ?_)
    (fun _ s' ⟨hb', hle, S'⟩ => wpAny_pure (wpAny_pure (SX.up hK S' hle E))) fun _ _ e => e)
  refine wpAny_mono (hit s hb S E) (fun xv s₁ h₁ => wpAny_mono h₁ (fun it s₂ ⟨hb₂, W, X, I, hok, hp0, hfp, hwr⟩ => ?_) fun _ _ e => e) fun _ _ e => e
  refine comp_block (ns := ns) (ifs := []) (p := fun _ => true) (G := fun i y Ow hb => Ow = [] ∧ V hb y (.py (g i))) (Inv := fun i ys Ox hb => Ox = [] ∧ VL hb ys (((List.range i).map g).map .py)) S X I hok hp0 hfp hwr hfree hkind hvis
    (fun C => hx C s hb) (by rw [sizeLine_eq]; omega) ⟨rfl, .nil⟩ (fun i ys Ox hb hb' k h => ⟨h.1, h.2.up k⟩) (fun i ys Ox hb h => ?_) (fun i ys Ox hb hp h => by cases hp) (fun i ys Ox hb y Ow hp h hG => ?_)
    (fun C O i d hd => TX.noTests) (fun C i d hd hp => EltG.data fun O => helt C s hb O i d hd) fun D C s' hb' ys Ox ρ' S' hle hinv => ?_
  · rw [h.2.length]; simp
  · refine ⟨by rw [hG.1, h.1]; rfl, ?_⟩
    rw [List.range_succ, List.map_append, List.map_append]
    exact h.2.append (.cons hG.2 .nil)
  · obtain ⟨⟨mC, hmC⟩, hC, hC0'⟩ := S'.loc
    have hC0 : s.heap.get? C = none := hC0' rfl
    obtain ⟨k1, k2, k3, k4⟩ := S'.own _ (List.mem_cons_self ..)
    have hD := k4 D (List.mem_cons_self ..)
    obtain ⟨X', kD⟩ := S'.ext.add (a := D) hD.s₀
    have hCD : C ≠ D := fun e => hD.loc e.symm
    have hCn : (addH hb' D s'.heap).get? C = none := only_none (by
      rintro (⟨o, e⟩ | e)
      · have hC' : hb'.get? C = none := hC
        rw [hC'] at e; cases e
      · exact hCD e)
    obtain ⟨nD, hlD⟩ := k2
    have hV : V (addH hb' D s'.heap) (.ref D) (.py (.list xs)) := by
      rw [hxs]; exact .mkList (only_get.mpr ⟨.inr rfl, hlD⟩) rfl rfl (by simpa using (hinv.2.up kD))
    have So : St c ρ O (addH hb' D s'.heap) s' := S.step X'
    have alive : ∀ b o, s.heap.get? b = some o → C ≠ b := fun b o e q => by rw [← q, hC0] at e; cases e
    have hloc : C ≠ c.env.locals := by obtain ⟨⟨m, o', _, _, e, _⟩, _⟩ := S.loc; exact alive _ _ e
    obtain ⟨⟨mL, hmL⟩, _⟩ := So.loc
    show wpAny _ _ (PySem.assign (.Name y py) c.env (.ref D)) _ _ _
    refine wpAny_assign_Name (wpAny_storeName_local hy.2 hmL (fun h' hn' hs' => ?_) (by rw [S.ok.kind]; rfl))
    have S₂₀ := So.localWritten hy.1 hy.2 hV hmL hn' hs'
    have S₂ := S₂₀.step (S₂₀.tok (s'.toks + 1))
    have hmC' : h'.Ns C mC := hmC.at' fun o e => (hs'.2 C hloc).trans e
    refine ⟨mC, hmC', fun h'' hs'' => ⟨_, X'.le, ?_⟩⟩
    refine S₂.forget hCn (S.ext.kp.none S.ok.tab₀ hC0) (fun q => ?_) hloc (fun n a h => ?_) (fun o ho q => ?_) hmC' hs''
    · obtain ⟨_, _, m, o', _, _, e, _⟩ := S.base.fr C q; rw [hC0] at e; cases e
    · obtain ⟨_, _, ⟨v, o', e, _⟩, _⟩ := S.cells n a h; exact (alive _ _ e).symm
    · obtain ⟨j1, j2, _⟩ := S.own o ho
      obtain ⟨ob, e, _⟩ := j1.live _ j2 C q
      rw [hC0] at e; cases e
end
end Mine
end

/-! ## C12 -/
section
set_option maxRecDepth 100000
namespace Mine

/-! ### Hamming -/
def padD (xs : List PyData) (m : Nat) : List PyData := xs ++ List.replicate (m - xs.length) .none
def hamNe (xs ys : List PyData) (i : Nat) : Bool := !PyData.eqv ((padD xs (max xs.length ys.length)).getD i .none) ((padD ys (max xs.length ys.length)).getD i .none)
def hamD (xs ys : List PyData) : Int := cnt (hamNe xs ys) (max xs.length ys.length)
theorem padD_len {xs : List PyData} {m : Nat} (h : xs.length ≤ m) : (padD xs m).length = m := by simp [padD]; omega
theorem padD_mem {xs : List PyData} {m i : Nat} : (padD xs m).getD i .none ∈ xs ∨ (padD xs m).getD i .none = .none := by
  rw [List.getD_eq_getElem?_getD]
  cases h : (padD xs m)[i]? with
  | none => exact .inr rfl
  | some d =>
    have := List.mem_of_getElem? h
    simp only [padD, List.mem_append, List.mem_replicate] at this
    rcases this with h | ⟨_, h⟩
    · exact .inl h
    · exact .inr h
theorem SeqOk.pads {xs ys : List PyData} (h : SeqOk xs ys) (hx : xs ≠ []) (hy : ys ≠ []) {m i : Nat} : Elt ((padD xs m).getD i .none) ∧ Elt ((padD ys m).getD i .none) ∧ Mate ((padD xs m).getD i .none) ((padD ys m).getD i .none) := by
  obtain ⟨x0, hx0⟩ := List.exists_mem_of_ne_nil _ hx
  obtain ⟨y0, hy0⟩ := List.exists_mem_of_ne_nil _ hy
  rcases padD_mem (xs := xs) (m := m) (i := i) with h1 | h1 <;> rcases padD_mem (xs := ys) (m := m) (i := i) with h2 | h2
  · exact h _ h1 _ h2
  · rw [h2]
    refine ⟨(h _ h1 _ hy0).1, .none, ?_⟩
    have e := (h _ h1 _ hy0).1
    revert e
    generalize (padD xs m).getD i .none = z
    intro e
    cases e <;> trivial
  · rw [h1]
    refine ⟨.none, (h _ hx0 _ h2).2.1, ?_⟩
    have e := (h _ hx0 _ h2).2.1
    revert e
    generalize (padD ys m).getD i .none = z
    intro e
    cases e <;> trivial
  · rw [h1, h2]; exact ⟨.none, .none, trivial⟩

theorem fo_get {P : Params} {es : List DictEntry} {n : Nat} (h : lookIn "_get_sequences" (dictOf es n) = some none) : findObj (KG P) 173 (some (dictOf es n)) "_get_sequences" = some (.bind (.builtin "function.__get__") (.ref 108)) :=
  findObj_fn (by rfl) (by rfl) (by rfl) (by rfl) (by rfl) h
theorem fo_quick {P : Params} {es : List DictEntry} {n : Nat} (h : lookIn "quick_answer" (dictOf es n) = some none) : findObj (KG P) 173 (some (dictOf es n)) "quick_answer" = some (.bind (.builtin "function.__get__") (.ref 93)) :=
  findObj_fn (by rfl) (by rfl) (by rfl) (by rfl) (by rfl) h

section
variable {w : World} {n : Nat} {A : Around} {l : List Env} {s₀ : Shared} {hb₀ : Heap} {L : Addr} {attrs : List (Str × D)} {dx dy : PyData} {xs ys : List PyData}
theorem b_ham_call (F : Fit xs ys) (ht : attrs.lookup ("test_func" : Str) = some (.raw (.ref 100))) (htr : attrs.lookup ("truncate" : Str) = some (.py (.bool false))) (hn0 : attrs.lookup ("_get_sequences" : Str) = none) (hn1 : attrs.lookup ("_ident" : Str) = none) (hn2 : attrs.lookup ("maximum" : Str) = none) (hn3 : attrs.lookup ("quick_answer" : Str) = none)
    (hG : CoC w (.ref 108) 3 (Gd w) [IV 173 attrs, .py dx, .py dy] [] (fun h v => V h v (.py (.list [.list xs, .list ys])))) :
    SB (fctx w (n + 3) A l s₀ hb₀ fd_170 L 170 (Gd w)) (rho [("self", IV 173 attrs), ("sequences", .py (.tuple [dx, dy]))] ρ0) [] (dBody d_ham_call) (fun o => o = .ret (.py (.int (ansD xs ys (hamD xs ys))))) := by
  have hC : (173 : Addr) = 173 ∨ (173 : Addr) = 214 ∨ (173 : Addr) = 255 := .inl rfl
  refine SB.assign (d := .py (.list [.list xs, .list ys])) ?_ (stoL rfl rfl) ?_
  · exact TX.methStar (EX.name (d := IV 173 attrs) rfl) cls_ham hn0 (fun _ _ _ h => fo_get h) (fun _ => by rfl) (ArgX.lone (EX.name (d := .py (.tuple [dx, dy])) rfl) (.inr rfl)) hG (fun P => ⟨_, _, _, _, rfl⟩) (by show 3 ≤ n + 3; omega)
  refine SB.assign (d := .py (quickD xs ys)) ?_ (stoL rfl rfl) ?_
  · exact TX.methStar (EX.name (d := IV 173 attrs) rfl) cls_ham hn3 (fun _ _ _ h => fo_quick h) (fun _ => by rfl) (ArgX.lone (EX.name (d := .py (.list [.list xs, .list ys])) rfl) (.inl rfl)) (c_quick (n := 0) hC hn1 hn2 F.s1 F.s2 F.l1 F.l2) (fun P => ⟨_, _, _, _, rfl⟩) (by show 2 ≤ n + 3; omega)
  have hint : ∀ i : Int, quickD xs ys = .int i → ansD xs ys (hamD xs ys) = i → SB (fctx w (n + 3) A l s₀ hb₀ fd_170 L 170 (Gd w)) (put (put (rho [("self", IV 173 attrs), ("sequences", .py (.tuple [dx, dy]))] ρ0) "sequences" (.py (.list [.list xs, .list ys]))) "result" (.py (quickD xs ys))) [] ((dBody d_ham_call).drop 2) (fun o => o = .ret (.py (.int (ansD xs ys (hamD xs ys))))) := by
    intro i hq ha
    rw [hq, ha]
    refine SB.ifTrue (TR.cmp (EX.name rfl) EX.noneX CmX.isNotNone_int) ?_
    refine SB.assertTrue (TR.of (TX.callName (EX.builtin rfl (fun _ => by rfl) rfl) (.plain (.cons (EX.name rfl) (.cons (EX.builtin rfl (fun _ => by rfl) rfl) .nil))) FnC.isInt (Nat.zero_le _) (fun _ _ g => g) Keeps?.builtin) TrX.bool) ?_
    exact SB.ret (EX.name rfl) rfl
  by_cases he : PyData.eqv (.list xs) (.list ys) = true
  · exact hint 0 (by simp [quickD, he]) (by simp [ansD, he])
  · by_cases ha : (!xs.isEmpty && !ys.isEmpty) = true
    · have hq : quickD xs ys = .none := by simp only [quickD, if_neg he, if_pos ha]
      have hd : ansD xs ys (hamD xs ys) = hamD xs ys := by simp only [ansD, if_neg he, if_pos ha]
      rw [hq, hd]
      have hne : xs ≠ [] ∧ ys ≠ [] := by
        cases xs with
        | nil => simp at ha
        | cons => cases ys with
          | nil => simp at ha
          | cons => simp
      have l1 := F.l1
      have l2 := F.l2
      have hmax : max xs.length ys.length < 1000 := by omega
      have hp1 := padD_len (xs := xs) (m := max xs.length ys.length) (by omega)
      have hp2 := padD_len (xs := ys) (m := max xs.length ys.length) (by omega)
      refine SB.ifFalse (TR.cmp (EX.name rfl) EX.noneX CmX.isNotNone_none) (SB.skip ?_)
      refine SB.ifTrue (TR.not (TR.of (EX.attr (EX.name (d := IV 173 attrs) rfl) cls_ham htr Handed.bool (fun _ => by rfl) (fun _ => by rfl)) TrX.bool) rfl) ?_
      refine SB.assign (d := .py (.int (max xs.length ys.length : Nat))) ?_ (stoC rfl rfl rfl) ?_
      · exact EX.maxLen2 (EX.builtin rfl (fun _ => by rfl) rfl) (EX.builtin rfl (fun _ => by rfl) rfl) (EX.builtin rfl (fun _ => by rfl) rfl) (EX.name (d := .py (.list [.list xs, .list ys])) rfl) Itb.list (by omega) (by omega)
      refine SB.assignComp ["longest"] (ds := ([.list xs, .list ys] : List PyData).map D.py) (g := fun i => .list (padD (pick2 xs ys i) (max xs.length ys.length))) (xs := [.list (padD xs (max xs.length ys.length)), .list (padD ys (max xs.length ys.length))]) (IX.list (EX.name (d := .py (.list [.list xs, .list ys])) rfl)) (by simp) (fun C' s hb O i d hd => ?_) ⟨rfl, rfl⟩ rfl (SB.skip ?_)
          (hvis := vis_cons (vis rfl rfl (fun _ => rfl) rfl) vis_nil) (hx := fun _ _ _ => stoL rfl rfl)
      · obtain ⟨hi, rfl⟩ := two_items hd
        have hp : pick2 (PyData.list xs) (PyData.list ys) i = .list (pick2 xs ys i) := by
          match i with
          | 0 => rfl
          | _ + 1 => rfl
        have hlen : (pick2 xs ys i).length < 1000 := pick2_lt l1 l2 i
        have hle : (pick2 xs ys i).length ≤ max xs.length ys.length := by
          match i with
          | 0 => exact Nat.le_max_left ..
          | _ + 1 => exact Nat.le_max_right ..
        rw [hp]
        generalize pick2 xs ys i = zs at hlen hle ⊢
        have e1 : (((max xs.length ys.length : Nat) : Int) - (zs.length : Int)).toNat = max xs.length ys.length - zs.length := by omega
        refine EX.conv (EX.bin (EX.call1 (EX.builtin rfl (fun _ => by rfl) rfl) (EX.name (d := .py (.list zs)) rfl) (FnC.list_list (by rw [sizeLine_eq]; omega)) Keeps?.type)
          (EX.bin (EX.listDisp (xs := [.none]) (.cons EX.noneX .nil) (by simp)) (EX.bin (EX.name (d := .py (.int (max xs.length ys.length : Nat))) rfl) (EX.lenList (EX.name rfl) rfl hlen) OpX.sub_int) (OpX.mul_list (by omega) (by omega) (by simp; omega))) (OpX.add_list ?_)) ?_
        · rw [e1]; simp [sizeLine_eq]; omega
        · rw [e1]; simp [padD]
      refine SB.ret (d := .py (.int (hamD xs ys))) ?_ rfl
      refine EX.sumGen ["self"] (n := max xs.length ys.length) (g := hamNe xs ys) (d := fun i => .tuple [(padD xs (max xs.length ys.length)).getD i .none, (padD ys (max xs.length ys.length)).getD i .none]) (EX.builtin rfl (fun _ => by rfl) rfl)
        (JX.zip (EX.builtin rfl (fun _ => by rfl) rfl) (ArgX.lone (EX.name (d := .py (.list [.list (padD xs (max xs.length ys.length)), .list (padD ys (max xs.length ys.length))])) rfl) (.inl rfl)) (dsl := [(padD xs (max xs.length ys.length)).map .py, (padD ys (max xs.length ys.length)).map .py]) (.cons Itb.list (.cons Itb.list .nil)) (by simp) (by simp) ?hge ⟨_, List.mem_cons_self .., by simpa using hp1⟩) ?hR rfl rfl rfl ?hvis (by omega) (by show 1 ≤ n + 3; omega) ?helt
      case hge =>
        intro ds hds
        simp only [List.mem_cons, List.not_mem_nil, or_false] at hds
        rcases hds with rfl | rfl <;> simp <;> omega
      case hR =>
        intro i hb v hi hv
        refine SeqV.to_tuple ?_
        have hi1 : i < (padD xs (max xs.length ys.length)).length := by omega
        have hi2 : i < (padD ys (max xs.length ys.length)).length := by omega
        have : rowD [(padD xs (max xs.length ys.length)).map .py, (padD ys (max xs.length ys.length)).map .py] i = ([(padD xs (max xs.length ys.length)).getD i .none, (padD ys (max xs.length ys.length)).getD i .none] : List PyData).map .py := by
          simp [rowD, List.getD, hi1, hi2]
        rw [← this]; exact hv
      case hvis =>
        intro y hy
        simp only [List.mem_cons, List.not_mem_nil, or_false] at hy
        subst hy
        exact ⟨_, rfl, .inl rfl, rfl, rfl⟩
      case helt =>
        intro C code s₁ hb₁ G A' n' i O' hn' hi
        obtain ⟨o1, o2, o3⟩ := F.ok.pads hne.1 hne.2 (m := max xs.length ys.length) (i := i)
        have hn'' : n + 3 = n' + 1 := hn'
        refine EX.notX (TX.methStarOwn (EX.name (d := IV 173 attrs) rfl) cls_ham ht (no_test hC) (ArgX.lone (EX.name (d := .py (.tuple [(padD xs (max xs.length ys.length)).getD i .none, (padD ys (max xs.length ys.length)).getD i .none])) rfl) (.inr rfl)) (c_ident (n := 0) o1 o2 o3).fn (isFn_100.keeps fun _ h => h) (by show 1 ≤ n'; omega)) TrX.bool
    · exact hint (max xs.length ys.length : Nat) (by simp only [quickD, if_neg he, if_neg ha]) (by simp only [ansD, if_neg he, if_neg ha])
end

/-- Hamming's distance -/
theorem c_ham_call {w : World} {n : Nat} {attrs : List (Str × D)} {dx dy : PyData} {xs ys : List PyData} (F : Fit xs ys) (ht : attrs.lookup ("test_func" : Str) = some (.raw (.ref 100))) (htr : attrs.lookup ("truncate" : Str) = some (.py (.bool false))) (hn0 : attrs.lookup ("_get_sequences" : Str) = none) (hn1 : attrs.lookup ("_ident" : Str) = none) (hn2 : attrs.lookup ("maximum" : Str) = none) (hn3 : attrs.lookup ("quick_answer" : Str) = none)
    (hG : CoC w (.ref 108) 3 (Gd w) [IV 173 attrs, .py dx, .py dy] [] (fun h v => V h v (.py (.list [.list xs, .list ys])))) :
    CoC w (.ref 170) (n + 4) (Gd w) [IV 173 attrs, .py dx, .py dy] [] (fun h v => V h v (.py (.int (ansD xs ys (hamD xs ys))))) := by
  refine CoC.def isFn_170 (fun _ h => h) (fun _ _ k g => g.up k) (bs := [("self", IV 173 attrs), ("sequences", .py (.tuple [dx, dy]))]) (K := fun o => o = .ret (.py (.int (ansD xs ys (hamD xs ys))))) ?_ ?_ (fun A l s₀ hb₀ L => b_ham_call F ht htr hn0 hn1 hn2 hn3 hG) ?_
  · intro x hx
    simp only [List.mem_cons, List.not_mem_nil, or_false] at hx
    rcases hx with rfl | rfl
    · exact .inr ⟨by rfl, fun _ => by rfl⟩
    · exact .inl (by rfl)
  · exact fun A l s hb B hP a ha E => self_star_binds B ha (fun _ _ _ => by rfl) E
  · rintro o rfl
    exact .inl ⟨_, rfl, fun h v x => x⟩
end Mine
end

/-! ## F52 -/
section
set_option maxRecDepth 100000
namespace Mine

section
variable {c : Ctx} {ρ : Rho} {O : List Own} {hb : Heap} {s : Shared}
/-- several new things are owned -/
theorem St.takeL {s₁ : Shared} {hb₁ : Heap} {ρ₁ : Rho} (S₁ : St c ρ₁ O hb₁ s₁) (S : St c ρ O hb s) : ∀ (Ox : List Own), (∀ o ∈ Ox, o.Ok ∧ o.p s.heap ∧ (∀ b ∈ o.fp, b ∈ o.wr ∨ ∃ ob, hb.get? b = some ob) ∧ ∀ b ∈ o.wr, s₁.heap.get? b = none ∧ hb.get? b = none) →
    Ox.Pairwise (fun x y => ∀ b ∈ x.wr, b ∉ y.wr) → St c ρ (Ox ++ O) hb s
  | [], _, _ => S
  | o :: Ox, h, hd => by
    obtain ⟨d1, d2⟩ := List.pairwise_cons.mp hd
    have S' := St.takeL S₁ S Ox (fun o' ho => h o' (List.mem_cons_of_mem _ ho)) d2
    obtain ⟨h1, h2, h3, h4⟩ := h o (List.mem_cons_self ..)
    have hone := St.take S₁ S h1 h2 h3 (fun b hb => (h4 b hb).1) (fun b hb => (h4 b hb).2)
    refine { S' with own := fun o' ho => ?_, disj := List.pairwise_cons.mpr ⟨fun y hy b hb q => ?_, S'.disj⟩ }
    · rcases List.mem_cons.mp ho with rfl | ho
      · exact hone.own _ (List.mem_cons_self ..)
      · exact S'.own o' ho
    · rcases List.mem_append.mp hy with hy | hy
      · exact d1 y hy b hb q
      · exact (List.pairwise_cons.mp hone.disj).1 y hy b hb q

theorem EX.perm {e : Expr} {d : D} {O' : List Own} (h : O'.Perm O) (he : EX c ρ O e d) : EX c ρ O' e d := fun s hb S E => he s hb (S.perm h) E

/-- y = [a comprehension of things that change], on one row -/
theorem SB.assignCompG {scope : Scope} (ns : List Str) {elt iter : Expr} {x y : Str} {px py pos spos : Pos} {rest : List Stmt} {K : Out → Prop} {ds : List D} {G : Nat → Value → List Own → Heap → Prop} {Inv : Nat → List Value → List Own → Heap → Prop}
    (hit : IX c ρ O (eval iter c.env) ds.length (Items ds)) (hn : ds.length ≤ 100000)
    (hinv0 : ∀ hb, Inv 0 [] [] hb) (hup : ∀ i ys Ox hb hb', Le hb hb' → Inv i ys Ox hb → Inv i ys Ox hb') (hlen : ∀ i ys Ox hb, Inv i ys Ox hb → ys.length ≤ i)
    (hadd : ∀ i ys Ox hb y Ow, Inv i ys Ox hb → G i y Ow hb → Inv (i + 1) (ys ++ [y]) (Ow ++ Ox) hb)
    (helt : ∀ C s hb i d, ds[i]? = some d → EltG (cctx c scope C s hb) (put (keepNames ns ρ) x d) elt (G i))
    (hy : c.wl = true ∧ c.env.kindOf y = some .local) (hK : ∀ ys Ox hb, Inv ds.length ys Ox hb → SB c (put ρ y (LV (ys.map .raw))) (Ox ++ O) rest K)
    (hsw : swapsWith (.ListComp elt [⟨.Name x px, iter, [], 0⟩] scope pos) (some (.Name y py)) spos.line c.env = pure true := by rfl)
    (hfree : scope.names.all (fun x => x.2 != .free || (c.env.cells.lookup x.1).isSome) = true := by rfl) (hkind : scope.kind = .function := by rfl) (hnames : ∀ x ∈ scope.names, x.2 = .local → scope.names.lookup x.1 = some .local := by decide)
    (hvis : ∀ y ∈ ns, Vis c scope y) (hx : ∀ C s hb, Sto (cctx c scope C s hb) x)
    (hs : ∀ x, foldedSetIterable iter c.env x = pure x := by intro _; rfl) :
    SB c ρ O (.Assign [.Name y py] (.ListComp elt [⟨.Name x px, iter, [], 0⟩] scope pos) spos :: rest) K := by
  intro s hb S E
  refine wpAny_execs_cons ?_
  rw [exec_Assign_Name_used _ _ _ _ hsw]
  refine wpAny_bind (wpAny_standAt (wpAny_bind ?_))
  show wpAny _ _ (do let _ ← comprehension (.ListComp elt [⟨.Name x px, iter, [], 0⟩] scope pos) scope c.env _ (newList []) false (eval iter c.env) (some (PySem.assign (.Name y py) c.env))) _ _ s
  refine wpAny_bind (wpAny_mono (wpAny_comprehension_free (use := some (PySem.assign (.Name y py) c.env)) (Q := fun _ s' => ∃ hb' ys Ox hb'', Le hb hb' ∧ Inv ds.length ys Ox hb'' ∧ St c (put ρ y (LV (ys.map .raw))) (Ox ++ O) hb' s') rfl hs (closureFor_eq hfree) hkind hnames ?_)
    (fun _ s' ⟨hb', ys, Ox, hb'', hle, hI, S'⟩ => wpAny_pure (wpAny_pure (SX.up (hK ys Ox hb'' hI) S' hle E))) fun _ _ e => e)
  refine wpAny_mono (hit s hb S E) (fun xv s₁ h₁ => wpAny_mono h₁ (fun it s₂ ⟨hb₂, W, X, I, hok, hp0, hfp, hwr⟩ => ?_) fun _ _ e => e) fun _ _ e => e
  refine comp_block (ns := ns) (ifs := []) (p := fun _ => true) (G := G) (Inv := Inv) S X I hok hp0 hfp hwr hfree hkind hvis
    (fun C => hx C s hb) (by rw [sizeLine_eq]; omega) (hinv0 _) hup hlen (fun i ys Ox hb hp h => by cases hp) (fun i ys Ox hb y Ow hp h hG => hadd i ys Ox hb y Ow h hG)
    (fun C O i d hd => TX.noTests) (fun C i d hd hp => helt C s hb i d hd) fun D C s' hb' ys Ox ρ' S' hle hinv => ?_
  obtain ⟨⟨mC, hmC⟩, hC, hC0'⟩ := S'.loc
  have hC0 : s.heap.get? C = none := hC0' rfl
  obtain ⟨k1, k2, k3, k4⟩ := S'.own _ (List.mem_cons_self ..)
  obtain ⟨dj1, dj2⟩ := List.pairwise_cons.mp S'.disj
  have hD := k4 D (List.mem_cons_self ..)
  obtain ⟨X', kD⟩ := S'.ext.add (a := D) hD.s₀
  have hCD : C ≠ D := fun e => hD.loc e.symm
  have nn : ∀ b, b ≠ D → hb'.get? b = none → (addH hb' D s'.heap).get? b = none := fun b h1 h2 => only_none (by
    rintro (⟨o, e⟩ | e)
    · rw [h2] at e; cases e
    · exact h1 e)
  have hCn : (addH hb' D s'.heap).get? C = none := nn C hCD hC
  obtain ⟨nD, hlD⟩ := k2
  have hVL : ∀ (h : Heap) (us : List Value), VL h us (us.map .raw) := fun h us => by
    induction us with
    | nil => exact .nil
    | cons u us ih => exact .cons rfl ih
  have hV : V (addH hb' D s'.heap) (.ref D) (LV (ys.map .raw)) := V.seq ⟨D, _, ys.toArray, nD, rfl, only_get.mpr ⟨.inr rfl, hlD⟩, rfl, rfl, by simpa using hVL _ ys⟩
  have So₀ : St c ρ O (addH hb' D s'.heap) s' := S.step X'
  have hoff : ∀ o ∈ Ox, ∀ b ∈ o.wr, s.heap.get? b = none ∧ (addH hb' D s'.heap).get? b = none ∧ b ≠ C := fun o ho b hb => by
    have f := (S'.own o (List.mem_cons_of_mem _ ho)).2.2.2 b hb
    refine ⟨f.s₀, nn b (fun e => ?_) f.hb, f.loc⟩
    exact dj1 o ho D (List.mem_cons_self ..) (e ▸ hb)
  have So : St c ρ (Ox ++ O) (addH hb' D s'.heap) s' := by
    refine St.takeL S So₀ Ox (fun o ho => ?_) dj2
    obtain ⟨j1, j2, j3, j4⟩ := S'.own o (List.mem_cons_of_mem _ ho)
    exact ⟨j1, j2, fun b hb => (j3 b hb).imp id fun ⟨ob, e⟩ => ⟨ob, kD _ _ e⟩, fun b hb => ⟨(hoff o ho b hb).1, (hoff o ho b hb).2.1⟩⟩
  have alive : ∀ b o, s.heap.get? b = some o → C ≠ b := fun b o e q => by rw [← q, hC0] at e; cases e
  have hloc : C ≠ c.env.locals := by obtain ⟨⟨m, o', _, _, e, _⟩, _⟩ := S.loc; exact alive _ _ e
  obtain ⟨⟨mL, hmL⟩, _⟩ := So.loc
  show wpAny _ _ (PySem.assign (.Name y py) c.env (.ref D)) _ _ _
  refine wpAny_assign_Name (wpAny_storeName_local hy.2 hmL (fun h' hn' hs' => ?_) (by rw [S.ok.kind]; rfl))
  have S₂₀ := So.localWritten hy.1 hy.2 hV hmL hn' hs'
  have S₂ := S₂₀.step (S₂₀.tok (s'.toks + 1))
  have hmC' : h'.Ns C mC := hmC.at' fun o e => (hs'.2 C hloc).trans e
  refine ⟨mC, hmC', fun h'' hs'' => ⟨_, ys, Ox, hb', X'.le, hinv, ?_⟩⟩
  refine S₂.forget hCn (S.ext.kp.none S.ok.tab₀ hC0) (fun q => ?_) hloc (fun n a h => ?_) (fun o ho q => ?_) hmC' hs''
  · obtain ⟨_, _, m, o', _, _, e, _⟩ := S.base.fr C q; rw [hC0] at e; cases e
  · obtain ⟨_, _, ⟨v, o', e, _⟩, _⟩ := S.cells n a h; exact (alive _ _ e).symm
  · rcases List.mem_append.mp ho with ho | ho
    · exact (hoff o ho C q).2.2 rfl
    · obtain ⟨j1, j2, _⟩ := S.own o ho
      obtain ⟨ob, e, _⟩ := j1.live _ j2 C q
      rw [hC0] at e; cases e
/-- a fresh list as an element -/
theorem EltG.fresh {elt : Expr} {xs : List PyData} (h : ∀ O, FX c ρ O (eval elt c.env) xs) (hr : ∀ h vs, VL h vs (xs.map .py) → ∀ h', VL h' vs (xs.map .py)) : EltG c ρ elt fun y Ow hb => ∃ a vs, y = .ref a ∧ Ow = [mutOwn a vs] ∧ ∀ h, VL h vs (xs.map .py) := by
  intro O s hb S E
  refine wpAny_mono (h O s hb S E) (fun v s₁ ⟨hb₁, a, vs, hv, X, hn, hna, hl, hvl⟩ => ?_) fun _ _ e => e
  exact ⟨hb₁, [mutOwn a vs], X.le, S.takeFX (xs := xs) X hn hna hl, a, vs, hv, rfl, hr _ _ hvl⟩

/-! ### items of lists of things -/
theorem GiX.lv {ds : List D} {k : Int} {d : D} (h0 : 0 ≤ k) (h1 : k < 2 ^ 63) (h : ds[k.toNat]? = some d) : GiX "list" (LV ds) (.py (.int k)) d := by
  intro c ρ O s hb v₁ v₂ S r₁ r₂
  obtain ⟨a, o, vs, n, rfl, g1, g2, g3, g4⟩ := V.out r₁
  obtain ⟨t, rfl⟩ := r₂.int_inv
  obtain ⟨v, hv, rv⟩ := g4.get h
  refine ⟨⟨o, S.base.le _ _ g1, g2⟩, fun E => wpAny_getItem_list ⟨o, S.base.le _ _ g1, g2, n, g3⟩ h0 h1 (x := v) (by simpa using hv) ⟨hb, S.refl, rv⟩⟩
theorem GiX.lv_last {ds : List D} {d : D} (hx : ds.length < 2 ^ 62) (h : ds.getLast? = some d) : GiX "list" (LV ds) (.py (.int (-1))) d := by
  intro c ρ O s hb v₁ v₂ S r₁ r₂
  obtain ⟨a, o, vs, n, rfl, g1, g2, g3, g4⟩ := V.out r₁
  obtain ⟨t, rfl⟩ := r₂.int_inv
  have hl := g4.length
  simp only [Array.length_toList] at hl
  have hne : ds ≠ [] := by rintro rfl; cases h
  have hpos : 0 < ds.length := List.length_pos_iff.mpr hne
  rw [List.getLast?_eq_getElem?] at h
  obtain ⟨v, hv, rv⟩ := g4.get (d := d) (i := ds.length - 1) h
  refine ⟨⟨o, S.base.le _ _ g1, g2⟩, fun E => wpAny_getItem_list_neg ⟨o, S.base.le _ _ g1, g2, n, g3⟩ (by omega) (by omega) (by omega) (x := v) ?_ ⟨hb, S.refl, rv⟩⟩
  have e : ((-1 : Int) + (vs.size : Int)).toNat = ds.length - 1 := by omega
  rw [e]; simpa using hv
theorem EX.ownLast {value slice : Expr} {pos : Pos} {a : Addr} {vs : List Value} {d : PyData} (h₁ : EX c ρ O value (.raw (.ref a))) (h₂ : EX c ρ O slice (.py (.int (-1)))) (hm : mutOwn a vs ∈ O) (hx : vs.length < 2 ^ 62) {v : Value} (hv : vs.getLast? = some v) (hd : ∀ hb, V hb v (.py d)) :
    EX c ρ O (.Subscript value slice pos) (.py d) := by
  intro s hb S E
  refine sub_gen PySem.F.slot_list_getitem.lookup (wpx S h₁ fun v₁ s₁ hb₁ x₁ S₁ r₁ => wpx S₁ h₂ fun v₂ s₂ hb₂ x₂ S₂ r₂ => ?_)
  cases r₁
  obtain ⟨t, rfl⟩ := r₂.int_inv
  obtain ⟨_, hp, _⟩ := S₂.own _ hm
  have hp' : s₂.heap.IsList a vs.toArray := hp
  have hne : vs ≠ [] := by rintro rfl; cases hv
  have hpos : 0 < vs.length := List.length_pos_iff.mpr hne
  rw [List.getLast?_eq_getElem?] at hv
  have hp'' := hp'
  obtain ⟨o, ho, hc, _⟩ := hp''
  refine ⟨⟨o, ho, hc⟩, wpAny_getItem_list_neg hp' (by omega) (by simp; omega) (by simp) (x := v) ?_ ⟨hb₂, x₁.trans S.base x₂, hd _⟩⟩
  have e : ((-1 : Int) + (vs.toArray.size : Int)).toNat = vs.length - 1 := by simp; omega
  rw [e]; simpa using hv
end
end Mine
end

/-! ## C13 -/
section
set_option maxRecDepth 100000
namespace Mine

/-! ### the plain table -/
abbrev Tb := List (List Int)
def tget (M : Tb) (k j : Nat) : Int := (M.getD k []).getD j 0
def tstep (eq : Nat → Nat → Bool) (r c : Nat) (M : Tb) : Tb :=
  M.set (r + 1) ((M.getD (r + 1) []).set (c + 1) (min (min (tget M r (c + 1) + 1) (tget M (r + 1) c + 1)) (tget M r c + if eq r c then 0 else 1)))
def tRow (eq : Nat → Nat → Bool) (r : Nat) (M : Tb) : Nat → Tb
  | 0 => M
  | c + 1 => tstep eq r c (tRow eq r M c)
def tAll (eq : Nat → Nat → Bool) (n : Nat) (M : Tb) : Nat → Tb
  | 0 => M
  | r + 1 => tRow eq r (tAll eq n M r) n
def row0 (n i : Nat) : List Int := (List.range (n + 1)).map fun (j : Nat) => (i : Int) + j
def rows0 (m n : Nat) : Tb := (List.range (m + 1)).map (row0 n)
def leastD (xs ys : List PyData) : Int := tget (tAll (eqAt xs ys) ys.length (rows0 xs.length ys.length) xs.length) xs.length ys.length

abbrev Rs := List (Addr × List Value)
def owns (rs : Rs) : List Own := rs.map fun p => mutOwn p.1 p.2
def refsOf (rs : Rs) : D := LV ((rs.map fun p => Value.ref p.1).map .raw)
structure LRows (rs : Rs) (M : Tb) (m n : Nat) : Prop where
  len : rs.length = m + 1
  mlen : M.length = m + 1
  rlen : ∀ k, k ≤ m → (M.getD k []).length = n + 1
  vals : ∀ k p, rs[k]? = some p → ∀ h, VL h p.2 (((M.getD k []).map .int).map .py)
theorem LRows.row {rs : Rs} {M : Tb} {m n k : Nat} (L : LRows rs M m n) (hk : k ≤ m) : ∃ p, rs[k]? = some p ∧ p ∈ rs ∧ p.2.length = n + 1 := by
  have hlt : k < rs.length := by rw [L.len]; omega
  refine ⟨rs[k], List.getElem?_eq_getElem hlt, List.getElem_mem hlt, ?_⟩
  have := (L.vals k rs[k] (List.getElem?_eq_getElem hlt) {}).length
  rw [this, List.length_map, List.length_map, L.rlen k hk]
theorem LRows.item {rs : Rs} {M : Tb} {m n k j : Nat} (L : LRows rs M m n) (hk : k ≤ m) (hj : j ≤ n) : ∃ p v, rs[k]? = some p ∧ p ∈ rs ∧ p.2.length = n + 1 ∧ p.2[j]? = some v ∧ ∀ h, V h v (.py (.int (tget M k j))) := by
  obtain ⟨p, h1, h2, h3⟩ := L.row hk
  have hjl : j < p.2.length := by omega
  refine ⟨p, p.2[j], h1, h2, h3, List.getElem?_eq_getElem hjl, fun h => ?_⟩
  obtain ⟨v, e1, e2⟩ := (L.vals k p h1 h).get (i := j) (d := .py (.int (tget M k j))) (by
    have : j < (M.getD k []).length := by rw [L.rlen k hk]; omega
    simp [tget, List.getD_eq_getElem?_getD, this] at this ⊢
    simp [this])
  rw [List.getElem?_eq_getElem hjl] at e1; cases e1
  exact e2
theorem LRows.set {rs : Rs} {M : Tb} {m n k j : Nat} (L : LRows rs M m n) (hk : k ≤ m) (hj : j ≤ n) {p : Addr × List Value} (hp : rs[k]? = some p) {v : Value} {d : Int} (hv : ∀ h, V h v (.py (.int d))) :
    LRows (rs.set k (p.1, p.2.set j v)) (M.set k ((M.getD k []).set j d)) m n where
  len := by rw [List.length_set]; exact L.len
  mlen := by rw [List.length_set]; exact L.mlen
  rlen := fun k' hk' => by
    have hlt : k' < M.length := by rw [L.mlen]; omega
    rw [List.getD_eq_getElem?_getD, List.getElem?_set]
    by_cases h : k = k'
    · subst h; simp [hlt, L.rlen k hk']
      have := L.rlen k hk'
      simpa [List.getD_eq_getElem?_getD, hlt] using this
    · rw [if_neg h]
      have := L.rlen k' hk'
      rwa [List.getD_eq_getElem?_getD] at this
  vals := fun k' p' hp' h => by
    rw [List.getElem?_set] at hp'
    by_cases hkk : k = k'
    · subst hkk
      have hlt : k < rs.length := by rw [L.len]; omega
      have hlt' : k < M.length := by rw [L.mlen]; omega
      rw [if_pos rfl, if_pos hlt] at hp'
      cases hp'
      have := (L.vals k p hp h).setD (k := j) (hv h)
      rw [show ((M.set k ((M.getD k []).set j d)).getD k []) = (M.getD k []).set j d by simp [List.getD_eq_getElem?_getD, hlt']]
      simpa [List.map_set] using this
    · rw [if_neg hkk] at hp'
      have e : (M.set k ((M.getD k []).set j d)).getD k' [] = M.getD k' [] := by
        rw [List.getD_eq_getElem?_getD, List.getElem?_set, if_neg hkk, ← List.getD_eq_getElem?_getD]
      rw [e]
      exact L.vals k' p' hp' h

theorem erase_perm {α : Type} {l : List α} {k : Nat} (h : k < l.length) : l.Perm (l[k] :: l.eraseIdx k) := by
  rw [List.eraseIdx_eq_take_drop_succ]
  have e : l = l.take k ++ l[k] :: l.drop (k + 1) := by rw [← List.drop_eq_getElem_cons h, List.take_append_drop]
  conv => lhs; rw [e]
  exact List.perm_middle
section
variable {c : Ctx} {ρ : Rho} {O : List Own}
theorem EX.rowAt {rows e : Expr} {p : Pos} {rs : Rs} {k : Nat} {q : Addr × List Value} (hr : EX c ρ O rows (refsOf rs)) (h : EX c ρ O e (.py (.int k))) (hq : rs[k]? = some q) (hk : k < 2 ^ 62) : EX c ρ O (.Subscript rows e p) (.raw (.ref q.1)) :=
  EX.sub hr h (GiX.lv (by omega) (by omega) (by simp [hq])) PySem.F.slot_list_getitem.lookup
theorem EX.rowItem {rows e₁ e₂ : Expr} {p₁ p₂ : Pos} {rs : Rs} {M : Tb} {m n k j : Nat} {ki ji : Int} (hr : EX c ρ O rows (refsOf rs)) (h₁ : EX c ρ O e₁ (.py (.int ki))) (h₂ : EX c ρ O e₂ (.py (.int ji))) (hki : ki = k) (hji : ji = j) (L : LRows rs M m n) (hO : ∀ q ∈ rs, mutOwn q.1 q.2 ∈ O)
    (hk : k ≤ m) (hj : j ≤ n) (hm : m < 1000) (hn : n < 1000) : EX c ρ O (.Subscript (.Subscript rows e₁ p₁) e₂ p₂) (.py (.int (tget M k j))) := by
  subst hki hji
  obtain ⟨q, v, h1, h2, h3, h4, h5⟩ := L.item hk hj
  exact EX.ownItem (EX.rowAt hr h₁ h1 (by omega)) h₂ (hO q h2) (by omega) (by omega) (v := v) (by simpa using h4) h5
theorem SB.rowSet {rows e₁ e₂ value : Expr} {p₁ p₂ pos : Pos} {rest : List Stmt} {K : Out → Prop} {rs : Rs} {M : Tb} {m n k j : Nat} {ki ji d : Int} (hv : EX c ρ (owns rs ++ O) value (.py (.int d))) (hr : EX c ρ (owns rs ++ O) rows (refsOf rs)) (h₁ : EX c ρ (owns rs ++ O) e₁ (.py (.int ki))) (h₂ : EX c ρ (owns rs ++ O) e₂ (.py (.int ji)))
    (hki : ki = k) (hji : ji = j) (L : LRows rs M m n) (hk : k ≤ m) (hj : j ≤ n) (hm : m < 1000) (hn : n < 1000) (hK : ∀ rs', refsOf rs' = refsOf rs → LRows rs' (M.set k ((M.getD k []).set j d)) m n → SB c ρ (owns rs' ++ O) rest K)
    (hs : swapsWith value (some (.Subscript (.Subscript rows e₁ p₁) e₂ p₂)) pos.line c.env = Pure.pure false := by rfl) : SB c ρ (owns rs ++ O) (.Assign [.Subscript (.Subscript rows e₁ p₁) e₂ p₂] value pos :: rest) K := by
  subst hki hji
  obtain ⟨q, v, h1, h2, h3, h4, h5⟩ := L.item hk hj
  have hlt : k < rs.length := by rw [L.len]; omega
  have hq : rs[k] = q := by rw [List.getElem?_eq_getElem hlt] at h1; exact Option.some.inj h1
  have P : (owns rs).Perm (mutOwn q.1 q.2 :: owns (rs.eraseIdx k)) := by
    have := (erase_perm hlt).map (fun p : Addr × List Value => mutOwn p.1 p.2)
    rw [hq] at this
    exact this
  have P' : (owns rs ++ O).Perm (mutOwn q.1 q.2 :: (owns (rs.eraseIdx k) ++ O)) := P.append_right O
  refine SB.perm P' (SX.seq (SX.setItem (d := .int d) (EX.perm P'.symm hv) (EX.perm P'.symm (EX.rowAt hr h₁ h1 (by omega))) (EX.perm P'.symm h₂) (by omega) (by omega) (by omega) .int (fun u hu => ?_) hs))
  have e : (j : Int).toNat = j := by omega
  rw [e]
  have hlt' : k < (rs.set k (q.1, q.2.set j u)).length := by rw [List.length_set]; exact hlt
  have P2 : (owns (rs.set k (q.1, q.2.set j u)) ++ O).Perm (mutOwn q.1 (q.2.set j u) :: (owns (rs.eraseIdx k) ++ O)) := by
    have := (erase_perm hlt').map (fun p : Addr × List Value => mutOwn p.1 p.2)
    rw [List.getElem_set_self, List.eraseIdx_set_eq] at this
    exact List.Perm.append_right O this
  refine SB.perm P2.symm (hK _ ?_ (L.set hk hj h1 hu))
  have e2 : (rs.set k (q.1, q.2.set j u)).map (fun p => Value.ref p.1) = rs.map fun p => Value.ref p.1 := by
    rw [List.map_set]
    apply List.ext_getElem?
    intro i
    rw [List.getElem?_set]
    by_cases h : k = i
    · subst h; simp [hlt, hq]
    · rw [if_neg h]
  unfold refsOf
  rw [e2]
end
end Mine
end

/-! ## C14 -/
section
set_option maxRecDepth 100000
namespace Mine

theorem tstep_len (eq : Nat → Nat → Bool) (r c : Nat) (M : Tb) : (tstep eq r c M).length = M.length := by simp [tstep]
theorem getD_range_map {α : Type} (f : Nat → α) (m k : Nat) (d : α) (h : k < m) : ((List.range m).map f).getD k d = f k := by
  simp [List.getD, h]
theorem ints_map {α : Type} (f : α → Int) (l : List α) : (l.map fun a => PyData.int (f a)) = (l.map f).map .int := by simp

section
variable {w : World} {n : Nat} {A : Around} {l : List Env} {s₀ : Shared} {hb₀ : Heap} {L : Addr} {xs ys : List PyData}
set_option maxHeartbeats 1000000 in
theorem b_least (hok : SeqOk xs ys) (l1 : xs.length < 900) (l2 : ys.length < 900) :
    SB (fctx w (n + 1) A l s₀ hb₀ fd_274 L 274 (Gd w)) (rho [("one", .py (.list xs)), ("other", .py (.list ys))] ρ0) [] (dBody d_law_least) (fun o => o = .ret (.py (.int (leastD xs ys)))) := by
  have eqc : ∀ r c, r < xs.length → c < ys.length → CmX .Eq (.py (xs.getD r .none)) (.py (ys.getD c .none)) (eqAt xs ys r c) := fun r c hr hc => by
    have hxe : xs[r]? = some (xs.getD r .none) := by simp [List.getD, hr]
    have hye : ys[c]? = some (ys.getD c .none) := by simp [List.getD, hc]
    obtain ⟨o1, o2, o3⟩ := hok _ (List.mem_of_getElem? hxe) _ (List.mem_of_getElem? hye)
    exact CmX.eq_data o1.shaped o2.shaped
  refine SB.assignCompG ["other"] (ds := rngD 0 ((xs.length : Int) + 1)) (G := fun i y Ow hb => ∃ a vs, y = .ref a ∧ Ow = [mutOwn a vs] ∧ ∀ h, VL h vs (((row0 ys.length i).map PyData.int).map .py))
    (Inv := fun i us Ox hb => ∃ rs : Rs, us = (rs.map fun p => Value.ref p.1) ∧ Ox = (owns rs).reverse ∧ rs.length = i ∧ ∀ (k : Nat) (p : Addr × List Value), rs[k]? = some p → ∀ h, VL h p.2 (((row0 ys.length k).map PyData.int).map .py))
    ?hit ?hn ?h0 (fun i us Ox hb hb' k h => h) ?hlen ?hadd ?helt ⟨rfl, rfl⟩ ?hK (hvis := vis_cons (vis rfl rfl (fun _ => rfl) rfl) vis_nil) (hx := fun _ _ _ => stoC rfl rfl rfl)
  case hit =>
    rw [rngD_length]
    refine IX.range ?_ (by decide) (by decide) (by omega) (by omega)
    exact TX.callName (EX.builtin rfl (fun _ => by rfl) rfl) (.plain (.cons (EX.bin (EX.lenList (EX.name rfl) rfl (by omega)) EX.int OpX.add_int) .nil)) FnC.range1 (Nat.zero_le _) (fun _ _ g => g) Keeps?.type
  case hn => rw [rngD_length]; omega
  case h0 => exact fun hb => ⟨[], rfl, rfl, rfl, fun k p h => by simp at h⟩
  case hlen =>
    rintro i us Ox hb ⟨rs, rfl, _, rfl, _⟩
    simp
  case hadd =>
    rintro i us Ox hb y Ow ⟨rs, rfl, rfl, rfl, hv⟩ ⟨a, vs, rfl, rfl, hvs⟩
    refine ⟨rs ++ [(a, vs)], by simp, by simp [owns], by simp, fun k p h => ?_⟩
    rw [List.getElem?_append] at h
    split at h
    · exact hv k p h
    · rename_i hk
      have : k = rs.length := by
        have := (List.getElem?_eq_some_iff.mp h).1
        simp at this
        omega
      subst this
      simp at h
      subst h
      exact hvs
  case helt =>
    intro C s hb i d hd
    obtain ⟨hi, rfl⟩ := rngD_at hd
    rw [Int.zero_add]
    have hr : ∀ h vs, VL h vs (((row0 ys.length i).map PyData.int).map .py) → ∀ h', VL h' vs (((row0 ys.length i).map PyData.int).map .py) := fun h vs x h' => x.ints h'
    refine EltG.fresh (xs := (row0 ys.length i).map .int) (fun O => ?_) hr
    refine FX.conv (FX.compRange ["i"] (n := ys.length + 1) (g := fun j => .int ((i : Int) + (j : Int))) ?_ (by omega) (fun C s hb O j hj => EX.bin (EX.name rfl) (EX.name rfl) OpX.add_int) (hvis := vis_cons (vis rfl rfl (fun _ => rfl) rfl) vis_nil) (hx := fun _ _ _ => stoL rfl rfl)) ?_
    · have e : ((ys.length + 1 : Nat) : Int) = (ys.length : Int) + 1 := by omega
      rw [e]
      exact TX.callName (EX.builtin rfl (fun _ => by rfl) rfl) (.plain (.cons (EX.bin (EX.lenList (EX.name rfl) rfl (by omega)) EX.int OpX.add_int) .nil)) FnC.range1 (Nat.zero_le _) (fun _ _ g => g) Keeps?.type
    · exact ints_map _ _
  case hK =>
    rintro us Ox hb ⟨rs, rfl, rfl, hlen, hv⟩
    have hlen' : rs.length = xs.length + 1 := by rw [hlen, rngD_length]; omega
    have L0 : LRows rs (rows0 xs.length ys.length) xs.length ys.length :=
      ⟨hlen', by simp [rows0], fun k hk => by rw [rows0, getD_range_map _ _ _ _ (by omega)]; simp [row0], fun k p hp h => by
        have hk : k < xs.length + 1 := by rw [← hlen']; exact (List.getElem?_eq_some_iff.mp hp).1
        rw [rows0, getD_range_map _ _ _ _ hk]; exact hv k p hp h⟩
    rw [List.append_nil]
    refine SB.perm (List.reverse_perm _) ?_
    refine SB.for (ds := rngD 1 ((xs.length : Int) + 1)) (Inv := fun r ρ O => ∃ rs' : Rs, O = owns rs' ∧ LRows rs' (tAll (eqAt xs ys) ys.length (rows0 xs.length ys.length) r) xs.length ys.length ∧ ρ "rows" = some (refsOf rs') ∧ ρ "one" = some (.py (.list xs)) ∧ ρ "other" = some (.py (.list ys))) ?_ (stoL rfl rfl) ?_ ?_ ?_
    · rw [rngD_length]
      refine IX.range ?_ (by decide) (by decide) (by omega) (by omega)
      exact TX.callName (EX.builtin rfl (fun _ => by rfl) rfl) (.plain (.cons EX.int (.cons (EX.bin (EX.lenList (EX.name rfl) rfl (by omega)) EX.int OpX.add_int) .nil))) FnC.range2 (Nat.zero_le _) (fun _ _ g => g) Keeps?.type
    · exact ⟨rs, rfl, L0, rfl, rfl, rfl⟩
    · clear L0 hlen hlen' hv
      rintro r d ρ' O' W hd ⟨rs', rfl, L1, i1, i2, i3⟩
      obtain ⟨hr, rfl⟩ := rngD_at hd
      have hr' : r < xs.length := by omega
      obtain ⟨M, hM⟩ : ∃ M, M = tAll (eqAt xs ys) ys.length (rows0 xs.length ys.length) r := ⟨_, rfl⟩
      have hM' : tAll (eqAt xs ys) ys.length (rows0 xs.length ys.length) (r + 1) = tRow (eqAt xs ys) r M ys.length := by rw [tAll, hM]
      rw [← hM] at L1
      refine SB.perm (O := owns rs' ++ [W]) (List.perm_append_singleton ..).symm ?_
      refine SB.for (ds := rngD 1 ((ys.length : Int) + 1)) (Inv := fun c ρ O => ∃ rs' : Rs, O = owns rs' ++ [W] ∧ LRows rs' (tRow (eqAt xs ys) r M c) xs.length ys.length ∧ ρ "rows" = some (refsOf rs') ∧ ρ "one" = some (.py (.list xs)) ∧ ρ "other" = some (.py (.list ys)) ∧ ρ "i" = some (.py (.int (1 + (r : Int))))) ?_ (stoL rfl rfl) ?_ ?_ ?_
      · rw [rngD_length]
        refine IX.range ?_ (by decide) (by decide) (by omega) (by omega)
        exact TX.callName (EX.builtin rfl (fun _ => by rfl) rfl) (.plain (.cons EX.int (.cons (EX.bin (EX.lenList (EX.name i3) rfl (by omega)) EX.int OpX.add_int) .nil))) FnC.range2 (Nat.zero_le _) (fun _ _ g => g) Keeps?.type
      · exact ⟨rs', rfl, L1, i1, i2, i3, rfl⟩
      · clear L1 i1 i2 i3
        rintro c d ρ'' O'' W' hd' ⟨rs', rfl, L1, i1, i2, i3, i4⟩
        obtain ⟨hc, rfl⟩ := rngD_at hd'
        have hc' : c < ys.length := by omega
        obtain ⟨M', hM2⟩ : ∃ M', M' = tRow (eqAt xs ys) r M c := ⟨_, rfl⟩
        have hM2' : tRow (eqAt xs ys) r M (c + 1) = tstep (eqAt xs ys) r c M' := by rw [tRow, hM2]
        rw [← hM2] at L1
        refine SB.perm (O := owns rs' ++ (W' :: [W])) List.perm_middle.symm ?_
        have hO : ∀ q ∈ rs', mutOwn q.1 q.2 ∈ owns rs' ++ (W' :: [W]) := fun q hq => List.mem_append_left _ (List.mem_map_of_mem hq)
        refine SB.rowSet (k := r + 1) (j := c + 1) (d := min (min (tget M' r (c + 1) + 1) (tget M' (r + 1) c + 1)) (tget M' r c + if eqAt xs ys r c then 0 else 1)) ?_ (EX.name i1) (EX.name i4) (EX.name rfl) (by omega) (by omega) L1 (by omega) (by omega) (by omega) (by omega) fun rs3 href L3 => ?_
        · refine TX.callName (EX.builtin rfl (fun _ => by rfl) rfl) (.plain (.cons ?_ (.cons ?_ (.cons ?_ .nil)))) FnC.min3 (Nat.zero_le _) (fun _ _ g => g) Keeps?.builtin
          · exact EX.bin (EX.rowItem (EX.name i1) (EX.bin (EX.name i4) EX.int OpX.sub_int) (EX.name rfl) (by omega) (by omega) L1 hO (by omega) (by omega) (by omega) (by omega)) EX.int OpX.add_int
          · exact EX.bin (EX.rowItem (EX.name i1) (EX.name i4) (EX.bin (EX.name rfl) EX.int OpX.sub_int) (by omega) (by omega) L1 hO (by omega) (by omega) (by omega) (by omega)) EX.int OpX.add_int
          · refine EX.bin (EX.rowItem (EX.name i1) (EX.bin (EX.name i4) EX.int OpX.sub_int) (EX.bin (EX.name rfl) EX.int OpX.sub_int) (by omega) (by omega) L1 hO (by omega) (by omega) (by omega) (by omega)) (d₂ := .py (.int (if eqAt xs ys r c then 0 else 1))) ?_ OpX.add_int
            refine EX.ite (k := eqAt xs ys r c) (TR.cmp (d₁ := .py (xs.getD r .none)) (d₂ := .py (ys.getD c .none)) ?_ ?_ (eqc r c hr' hc')) (fun h => EX.conv EX.int (by rw [h]; rfl)) (fun h => EX.conv EX.int (by rw [h]; rfl))
            · refine EX.sub (EX.name i2) (EX.bin (EX.name i4) EX.int OpX.sub_int) (GiX.list (by omega) (by omega) ?_) PySem.F.slot_list_getitem.lookup
              rw [show (1 + (r : Int) - 1).toNat = r by omega]
              simp [List.getD, hr']
            · refine EX.sub (EX.name i3) (EX.bin (EX.name rfl) EX.int OpX.sub_int) (GiX.list (by omega) (by omega) ?_) PySem.F.slot_list_getitem.lookup
              rw [show (1 + (c : Int) - 1).toNat = c by omega]
              simp [List.getD, hc']
        · refine SB.perm (O := W' :: (owns rs3 ++ [W])) List.perm_middle (SB.nil ⟨_, rfl, rs3, rfl, ?_, ?_, i2, i3, i4⟩)
          · rw [hM2']; exact L3
          · rw [href]; exact i1
      · clear L1 i1 i2 i3
        rintro ρ'' O'' ⟨rs', rfl, L1, i1, i2, i3, i4⟩
        have e : (rngD 1 ((ys.length : Int) + 1)).length = ys.length := by rw [rngD_length]; omega
        rw [e] at L1
        refine SB.perm (O := W :: owns rs') (List.perm_append_singleton ..) (SB.nil ⟨_, rfl, rs', rfl, ?_, i1, i2, i3⟩)
        rw [hM']; exact L1
    · clear L0 hlen hlen' hv
      rintro ρ' O' ⟨rs', rfl, L1, i1, i2, i3⟩
      have e : (rngD 1 ((xs.length : Int) + 1)).length = xs.length := by rw [rngD_length]; omega
      rw [e] at L1
      obtain ⟨q, v, h1, h2, h3, h4, h5⟩ := L1.item (Nat.le_refl xs.length) (Nat.le_refl ys.length)
      refine SB.ret (d := .py (.int (leastD xs ys))) ?_ rfl
      refine EX.ownLast (EX.sub (EX.name i1) EX.neg1 (GiX.lv_last (d := .raw (.ref q.1)) ?_ ?_) PySem.F.slot_list_getitem.lookup) EX.neg1 (List.mem_map_of_mem h2) (by omega) (v := v) ?_ h5
      · simp [L1.len]; omega
      · rw [List.getLast?_eq_getElem?]
        have e3 : ((rs'.map fun p => Value.ref p.1).map D.raw).length - 1 = xs.length := by simp [L1.len]
        rw [e3, List.getElem?_map, List.getElem?_map, h1]; rfl
      · rw [List.getLast?_eq_getElem?, h3]; exact h4
end
theorem c_least {w : World} {n : Nat} {xs ys : List PyData} (hok : SeqOk xs ys) (l1 : xs.length < 900) (l2 : ys.length < 900) :
    CoC w (.ref 274) (n + 2) (Gd w) [.py (.list xs), .py (.list ys)] [] (fun h v => V h v (.py (.int (leastD xs ys)))) := by
  refine CoC.def isFn_274 (fun _ h => h) (fun _ _ k g => g.up k) (bs := [("one", .py (.list xs)), ("other", .py (.list ys))]) (K := fun o => o = .ret (.py (.int (leastD xs ys)))) ?_ ?_ (fun A l s₀ hb₀ L => b_least hok l1 l2) ?_
  · intro y hy
    simp only [List.mem_cons, List.not_mem_nil, or_false] at hy
    rcases hy with rfl | rfl
    · exact .inl (by rfl)
    · exact .inr ⟨by rfl, fun _ => by rfl⟩
  · exact fun A l s hb B hP a ha E => two_binds B ha (fun _ _ => by rfl) E
  · rintro o rfl
    exact .inl ⟨_, rfl, fun h v x => x⟩
end Mine
end

/-! ## P1 -/
section
set_option maxRecDepth 100000
namespace Mine

/-! ### the least count of changes -/
def tab (eq : Nat → Nat → Bool) : Nat → Nat → Int
  | 0, j => j
  | i + 1, 0 => (i : Int) + 1
  | i + 1, j + 1 => min (min (tab eq i j + if eq i j then 0 else 1) (tab eq i (j + 1) + 1)) (tab eq (i + 1) j + 1)
theorem tab_zero (eq : Nat → Nat → Bool) : ∀ i, tab eq i 0 = i
  | 0 => by rw [tab]
  | i + 1 => by rw [tab]; omega
theorem tab_nonneg (eq : Nat → Nat → Bool) : ∀ i j, 0 ≤ tab eq i j
  | 0, j => by rw [tab]; omega
  | i + 1, 0 => by rw [tab]; omega
  | i + 1, j + 1 => by
    rw [tab]
    have h1 := tab_nonneg eq i j
    have h2 := tab_nonneg eq i (j + 1)
    have h3 := tab_nonneg eq (i + 1) j
    split <;> omega

theorem getD_map_range (f : Nat → Int) (m k : Nat) (h : k < m) : ((List.range m).map f).getD k 0 = f k := by
  rw [List.getD_eq_getElem?_getD, List.getElem?_map, List.getElem?_range h]; rfl

theorem rowFrom_eq (eq : Nat → Nat → Bool) (n r : Nat) : ∀ k, k ≤ n → rowFrom (eq r) ((List.range (n + 1)).map (tab eq r)) ((r : Int) + 1) n k = (List.range (n + 1)).map fun j => if j ≤ k then tab eq (r + 1) j else 0
  | 0, _ => by
    rw [rowFrom]
    apply List.ext_getElem
    · simp
    · intro i h1 h2
      cases i with
      | zero => simp [tab]
      | succ i => simp
  | k + 1, hk => by
    rw [rowFrom, rowFrom_eq eq n r k (by omega), cellStep]
    have e1 : ((List.range (n + 1)).map (tab eq r)).getD (k + 1 - 1) 0 = tab eq r k := getD_map_range _ _ _ (by omega)
    have e2 : ((List.range (n + 1)).map (tab eq r)).getD (k + 1) 0 = tab eq r (k + 1) := getD_map_range _ _ _ (by omega)
    have e3 : ((List.range (n + 1)).map fun j => if j ≤ k then tab eq (r + 1) j else 0).getD (k + 1 - 1) 0 = tab eq (r + 1) k := by
      rw [getD_map_range _ _ _ (by omega)]; simp
    rw [e1, e2, e3]
    apply List.ext_getElem
    · simp
    · intro i h1 h2
      rw [List.getElem_set]
      simp only [List.getElem_map, List.getElem_range]
      by_cases h : k + 1 = i
      · subst h
        rw [if_pos rfl, if_pos (Nat.le_refl _), tab]
        simp
      · rw [if_neg h]
        by_cases hi : i ≤ k
        · rw [if_pos hi, if_pos (by omega)]
        · rw [if_neg hi, if_neg (by omega)]
theorem levRow_eq (eq : Nat → Nat → Bool) (n : Nat) : ∀ r, levRow eq n r = (List.range (n + 1)).map (tab eq r)
  | 0 => by
    rw [levRow]
    apply List.map_congr_left
    intro j _
    rw [tab]
  | r + 1 => by
    rw [levRow, levRow_eq eq n r, rowFrom_eq eq n r n (Nat.le_refl _)]
    apply List.ext_getElem
    · simp
    · intro i h1 h2
      simp at h1
      simp only [List.getElem_map, List.getElem_range]
      rw [if_pos (by omega)]
theorem levD_eq (xs ys : List PyData) : levD xs ys = tab (eqAt xs ys) xs.length ys.length := by
  rw [levD, levRow_eq, getD_map_range _ _ _ (by omega)]

/-! the plain table tells the same -/
structure TOk (eq : Nat → Nat → Bool) (m n r c : Nat) (M : Tb) : Prop where
  len : M.length = m + 1
  rl : ∀ k, k ≤ m → (M.getD k []).length = n + 1
  done : ∀ k j, k ≤ m → j ≤ n → (k ≤ r ∨ j = 0 ∨ (k = r + 1 ∧ j ≤ c)) → tget M k j = tab eq k j
theorem tget_set {M : Tb} {k j k' j' : Nat} {d : Int} (hk : k < M.length) (hj : j < (M.getD k []).length) : tget (M.set k ((M.getD k []).set j d)) k' j' = if k = k' ∧ j = j' then d else tget M k' j' := by
  unfold tget
  by_cases h : k = k'
  · subst h
    have e : (M.set k ((M.getD k []).set j d)).getD k [] = (M.getD k []).set j d := by
      rw [List.getD_eq_getElem?_getD, List.getElem?_set_self hk]; rfl
    rw [e]
    by_cases h' : j = j'
    · subst h'
      rw [if_pos ⟨rfl, rfl⟩, List.getD_eq_getElem?_getD, List.getElem?_set_self hj]; rfl
    · rw [if_neg (fun q => h' q.2), List.getD_eq_getElem?_getD, List.getElem?_set_ne h', ← List.getD_eq_getElem?_getD]
  · rw [if_neg (fun q => h q.1)]
    have e : (M.set k ((M.getD k []).set j d)).getD k' [] = M.getD k' [] := by
      rw [List.getD_eq_getElem?_getD, List.getElem?_set_ne h, ← List.getD_eq_getElem?_getD]
    rw [e]
theorem TOk.step {eq : Nat → Nat → Bool} {m n r c : Nat} {M : Tb} (T : TOk eq m n r c M) (hr : r < m) (hc : c < n) : TOk eq m n r (c + 1) (tstep eq r c M) := by
  have hk : r + 1 < M.length := by rw [T.len]; omega
  have hj : c + 1 < (M.getD (r + 1) []).length := by rw [T.rl _ (by omega)]; omega
  refine ⟨by rw [tstep_len, T.len], fun k hkm => ?_, fun k j hkm hjn h => ?_⟩
  · unfold tstep
    by_cases h : r + 1 = k
    · subst h
      rw [List.getD_eq_getElem?_getD, List.getElem?_set_self hk]
      simp only [Option.getD_some, List.length_set]
      exact T.rl _ hkm
    · rw [List.getD_eq_getElem?_getD, List.getElem?_set_ne h, ← List.getD_eq_getElem?_getD]
      exact T.rl k hkm
  · unfold tstep
    rw [tget_set hk hj]
    by_cases h' : r + 1 = k ∧ c + 1 = j
    · obtain ⟨rfl, rfl⟩ := h'
      rw [if_pos ⟨rfl, rfl⟩, tab]
      rw [T.done r (c + 1) (by omega) (by omega) (.inl (Nat.le_refl _)), T.done (r + 1) c (by omega) (by omega) (.inr (.inr ⟨rfl, Nat.le_refl _⟩)), T.done r c (by omega) (by omega) (.inl (Nat.le_refl _))]
      split <;> omega
    · rw [if_neg h']
      exact T.done k j hkm hjn (by omega)
theorem TOk.row {eq : Nat → Nat → Bool} {m n r : Nat} {M : Tb} (T : TOk eq m n r 0 M) (hr : r < m) : ∀ c, c ≤ n → TOk eq m n r c (tRow eq r M c)
  | 0, _ => T
  | c + 1, h => (T.row hr c (by omega)).step hr (by omega)
theorem TOk.all {eq : Nat → Nat → Bool} {m n : Nat} {M : Tb} (T : TOk eq m n 0 0 M) : ∀ r, r ≤ m → TOk eq m n r 0 (tAll eq n M r)
  | 0, _ => T
  | r + 1, h => by
    have := (T.all r (by omega)).row (by omega) n (Nat.le_refl _)
    exact ⟨this.len, this.rl, fun k j hk hj hq => this.done k j hk hj (by omega)⟩
theorem rows0_ok (eq : Nat → Nat → Bool) (m n : Nat) : TOk eq m n 0 0 (rows0 m n) := by
  have hg : ∀ k, k ≤ m → (rows0 m n).getD k [] = row0 n k := fun k hk => by
    rw [rows0, getD_range_map _ _ _ _ (by omega)]
  refine ⟨by simp [rows0], fun k hk => by rw [hg k hk]; simp [row0], fun k j hk hj h => ?_⟩
  unfold tget
  rw [hg k hk, row0, getD_map_range _ _ _ (by omega)]
  rcases h with h | h | ⟨h, h'⟩
  · have : k = 0 := by omega
    subst this; rw [tab]; omega
  · subst h; rw [tab_zero]; omega
  · have : j = 0 := by omega
    subst this; rw [tab_zero]; omega
theorem leastD_eq (xs ys : List PyData) : leastD xs ys = tab (eqAt xs ys) xs.length ys.length := by
  have := (rows0_ok (eqAt xs ys) xs.length ys.length).all xs.length (Nat.le_refl _)
  exact this.done _ _ (Nat.le_refl _) (Nat.le_refl _) (.inl (Nat.le_refl _))

/-! equal rows -/
theorem eqvAll_at : ∀ {xs ys : List PyData}, PyData.eqvAll xs ys = true → xs.length = ys.length ∧ ∀ i, i < xs.length → eqAt xs ys i i = true
  | [], [], _ => ⟨rfl, fun i h => absurd h (Nat.not_lt_zero _)⟩
  | x :: xs, y :: ys, h => by
    rw [PyData.eqvAll, Bool.and_eq_true] at h
    obtain ⟨h1, h2⟩ := eqvAll_at h.2
    refine ⟨by simp [h1], fun i hi => ?_⟩
    cases i with
    | zero => simpa [eqAt] using h.1
    | succ i =>
      have := h2 i (by simpa using hi)
      simpa [eqAt] using this
  | [], _ :: _, h => by rw [PyData.eqvAll] at h; cases h
  | _ :: _, [], h => by rw [PyData.eqvAll] at h; cases h
theorem eqvAll_of : ∀ {xs ys : List PyData}, xs.length = ys.length → (∀ i, i < xs.length → eqAt xs ys i i = true) → PyData.eqvAll xs ys = true
  | [], [], _, _ => by rw [PyData.eqvAll]
  | x :: xs, y :: ys, hl, h => by
    rw [PyData.eqvAll, Bool.and_eq_true]
    refine ⟨by simpa [eqAt] using h 0 (by simp), eqvAll_of (by simpa using hl) fun i hi => ?_⟩
    have := h (i + 1) (by simpa using hi)
    simpa [eqAt] using this
theorem tab_diag {eq : Nat → Nat → Bool} : ∀ n, (∀ i, i < n → eq i i = true) → tab eq n n = 0
  | 0, _ => by rw [tab]; rfl
  | n + 1, h => by
    have ih := tab_diag n fun i hi => h i (by omega)
    have h1 := tab_nonneg eq n (n + 1)
    have h2 := tab_nonneg eq (n + 1) n
    rw [tab, ih, h n (by omega)]
    simp; omega

/-- Levenshtein's answer is the least count of changes -/
theorem lev_least (xs ys : List PyData) : ansD xs ys (levD xs ys) = leastD xs ys := by
  rw [levD_eq, leastD_eq]
  unfold ansD
  split
  · rename_i h
    rw [PyData.eqv] at h
    obtain ⟨h1, h2⟩ := eqvAll_at h
    rw [← h1]; exact (tab_diag _ h2).symm
  · split
    · rfl
    · rename_i h
      cases xs with
      | nil => simp [tab]
      | cons x xs =>
        cases ys with
        | nil => rw [List.length_nil, tab_zero]; simp
        | cons y ys => simp at h
end Mine
end

/-! ## P2 -/
section
set_option maxRecDepth 100000
namespace Mine

/-! ### the places at which rows differ -/
theorem cut_one (xs : List PyData) (k : Nat) : cut xs (some (k : Int)) (some ((k : Int) + 1)) = (xs.drop k).take 1 := by
  simp only [cut, Option.elim]
  have e : (k : Int) + 1 = ((k + 1 : Nat) : Int) := by omega
  rw [e, clipAt_nat, clipAt_nat]
  rcases Nat.lt_or_ge k xs.length with h | h
  · rw [Nat.min_eq_left (by omega), Nat.min_eq_left (by omega)]
    congr 1; omega
  · rw [Nat.min_eq_right (by omega), Nat.min_eq_right (by omega), List.drop_of_length_le (Nat.le_refl _), List.drop_of_length_le h]; simp
def diffAt (xs ys : List PyData) (k : Nat) : Bool := !PyData.eqv (.list (cut xs (some (k : Int)) (some ((k : Int) + 1)))) (.list (cut ys (some (k : Int)) (some ((k : Int) + 1))))
def diffs (xs ys : List PyData) : List Nat := (List.range (max xs.length ys.length)).filter (diffAt xs ys)
def NN (xs : List PyData) : Prop := ∀ x ∈ xs, PyData.eqv .none x = false ∧ PyData.eqv x .none = false

theorem drop_one (xs : List PyData) (k : Nat) : (xs.drop k).take 1 = if k < xs.length then [xs.getD k .none] else [] := by
  split
  · rename_i h
    have e : (xs.drop k).take 1 = [xs[k]] := by rw [List.drop_eq_getElem_cons h, List.take_succ_cons, List.take_zero]
    rw [e, List.getD_eq_getElem?_getD, List.getElem?_eq_getElem h]; rfl
  · rename_i h
    rw [List.drop_of_length_le (by omega)]; rfl
theorem padD_getD (xs : List PyData) (m k : Nat) : (padD xs m).getD k .none = if k < xs.length then xs.getD k .none else .none := by
  unfold padD
  rw [List.getD_eq_getElem?_getD, List.getElem?_append]
  split
  · rw [← List.getD_eq_getElem?_getD]
  · rw [List.getElem?_replicate]
    split <;> rfl
theorem diffAt_eq {xs ys : List PyData} (hx : NN xs) (hy : NN ys) {k : Nat} (hk : k < max xs.length ys.length) : diffAt xs ys k = hamNe xs ys k := by
  unfold diffAt hamNe
  rw [cut_one, cut_one, drop_one, drop_one, padD_getD, padD_getD, PyData.eqv]
  by_cases h1 : k < xs.length <;> by_cases h2 : k < ys.length
  · rw [if_pos h1, if_pos h2, if_pos h1, if_pos h2, PyData.eqvAll, PyData.eqvAll, Bool.and_true]
  · rw [if_pos h1, if_neg h2, if_pos h1, if_neg h2, PyData.eqvAll]
    have : xs.getD k .none ∈ xs := List.mem_of_getElem? (i := k) (by simp [List.getD, h1])
    rw [(hx _ this).2]
  · rw [if_neg h1, if_pos h2, if_neg h1, if_pos h2, PyData.eqvAll]
    have : ys.getD k .none ∈ ys := List.mem_of_getElem? (i := k) (by simp [List.getD, h2])
    rw [(hy _ this).1]
  · omega
theorem cnt_filter (g : Nat → Bool) : ∀ n : Nat, cnt g n = (((List.range n).filter g).length : Nat)
  | 0 => rfl
  | n + 1 => by
    rw [cnt, cnt_filter g n, List.range_succ, List.filter_append, List.length_append]
    cases h : g n <;> simp [h]
theorem cnt_congr {g g' : Nat → Bool} : ∀ n : Nat, (∀ i, i < n → g i = g' i) → cnt g n = cnt g' n
  | 0, _ => rfl
  | n + 1, h => by rw [cnt, cnt, cnt_congr n fun i hi => h i (by omega), h n (by omega)]
theorem cnt_all {g : Nat → Bool} : ∀ n : Nat, (∀ i, i < n → g i = true) → cnt g n = n
  | 0, _ => rfl
  | n + 1, h => by rw [cnt, cnt_all n fun i hi => h i (by omega), h n (by omega)]; simp
theorem cnt_none {g : Nat → Bool} : ∀ n : Nat, (∀ i, i < n → g i = false) → cnt g n = 0
  | 0, _ => rfl
  | n + 1, h => by rw [cnt, cnt_none n fun i hi => h i (by omega), h n (by omega)]; simp

/-- Hamming's answer is the count of places -/
theorem ham_diffs {xs ys : List PyData} (hx : NN xs) (hy : NN ys) : ansD xs ys (hamD xs ys) = ((diffs xs ys).length : Nat) := by
  unfold diffs
  rw [← cnt_filter, cnt_congr _ fun i hi => diffAt_eq hx hy hi]
  unfold ansD
  split
  · rename_i h
    rw [PyData.eqv] at h
    obtain ⟨h1, h2⟩ := eqvAll_at h
    symm
    refine cnt_none _ fun i hi => ?_
    unfold hamNe
    have hi' : i < xs.length := by omega
    rw [padD_getD, padD_getD, if_pos hi', if_pos (by omega)]
    have := h2 i hi'
    unfold eqAt at this
    rw [this]; rfl
  · split
    · rfl
    · rename_i h
      symm
      refine cnt_all _ fun i hi => ?_
      rw [← diffAt_eq hx hy hi]
      unfold diffAt
      rw [cut_one, cut_one, drop_one, drop_one, PyData.eqv]
      cases xs with
      | nil =>
        have : i < ys.length := by simpa using hi
        rw [if_neg (by simp), if_pos this, PyData.eqvAll]; rfl
      | cons x xs =>
        cases ys with
        | nil =>
          have : i < (x :: xs).length := by simpa using hi
          rw [if_pos this, if_neg (by simp), PyData.eqvAll]; rfl
        | cons y ys => simp at h

/-! ### words -/
def wl : List Nat → List Nat → List (List Nat)
  | [], cur => if cur.isEmpty then [] else [cur]
  | k :: r, cur => if Unicode.isSpace k then (if cur.isEmpty then wl r [] else cur :: wl r []) else wl r (cur ++ [k])
def strOf (l : List Nat) : Str := ⟨l.toArray⟩
theorem strSub_list (x : Str) (i j : Nat) : Builtin.Str.strSub x i j = strOf ((x.cps.toList.drop i).take (j - i)) := by
  unfold Builtin.Str.strSub strOf
  congr 1
  rw [← Array.toList_inj]
  simp [Array.toList_extract, List.extract_eq_take_drop]

theorem sw_words (x : Str) (limit : Nat) (hl : x.length < limit) : ∀ (m cur : Nat) (words : Array (Nat × Nat)) (start : Option Nat), cur + m = x.length → words.size ≤ cur → (∀ b, start = some b → b < cur) →
    (StrLaws.swEnd x (forIn (List.range' cur m) ((none, words, start) : StrLaws.SwSt) (StrLaws.swBody x limit)).run).map (fun p => Builtin.Str.strSub x p.1 p.2) =
      words.toList.map (fun p => Builtin.Str.strSub x p.1 p.2) ++ (wl (x.cps.toList.drop cur) (match start with | none => [] | some b => (x.cps.toList.drop b).take (cur - b))).map strOf
  | 0, cur, words, start, hm, hw, hs => by
    have hc : cur = x.length := by omega
    have hlen : x.cps.toList.length = x.length := by simp [Str.length]
    rw [List.drop_of_length_le (by omega)]
    show (StrLaws.swEnd x (none, words, start)).map _ = _
    unfold StrLaws.swEnd
    cases start with
    | none => simp [wl]
    | some b =>
      have hb := hs b rfl
      have hne : ((x.cps.toList.drop b).take (cur - b)).isEmpty = false := by
        rw [List.isEmpty_eq_false_iff_exists_mem]
        refine ⟨_, List.getElem_mem (n := 0) ?_⟩
        rw [List.length_take, List.length_drop, hlen]; omega
      simp only [wl, hne, Bool.false_eq_true, if_false]
      rw [Array.toList_push, List.map_append, List.map_cons, List.map_nil, strSub_list, hc]
      rfl
  | m + 1, cur, words, start, hm, hw, hs => by
    have hlen : x.cps.toList.length = x.length := by simp [Str.length]
    have hcur : cur < x.cps.toList.length := by omega
    rw [List.range'_succ, List.forIn_cons]
    have hsz : ¬ ((words.size == limit) = true) := by rw [beq_iff_eq]; omega
    have hget : x.cps.getD cur 0 = x.cps.toList[cur] := by
      have : cur < x.cps.size := by simpa using hcur
      simp [this]
    rw [List.drop_eq_getElem_cons hcur]
    unfold StrLaws.swBody
    simp only [hsz, if_false]
    rw [hget]
    cases start with
    | none =>
      cases hsp : Unicode.isSpace x.cps.toList[cur]
      · refine (sw_words x limit hl m (cur + 1) words (some cur) (by omega) (by omega) (fun b hb => by cases hb; omega)).trans ?_
        rw [wl]
        simp only [hsp, Bool.false_eq_true, if_false, List.nil_append]
        rw [show cur + 1 - cur = 1 by omega, List.drop_eq_getElem_cons hcur]
        rfl
      · refine (sw_words x limit hl m (cur + 1) words none (by omega) (by omega) (fun b hb => by cases hb)).trans ?_
        rw [wl]
        simp only [hsp, if_true, List.isEmpty_nil]
    | some b =>
      have hb := hs b rfl
      cases hsp : Unicode.isSpace x.cps.toList[cur]
      · refine (sw_words x limit hl m (cur + 1) words (some b) (by omega) (by omega) (fun b' hb' => by cases hb'; omega)).trans ?_
        rw [wl]
        simp only [hsp, Bool.false_eq_true, if_false]
        have e : (x.cps.toList.drop b).take (cur + 1 - b) = (x.cps.toList.drop b).take (cur - b) ++ [x.cps.toList[cur]] := by
          rw [show cur + 1 - b = (cur - b) + 1 by omega, List.take_add_one]
          congr 1
          rw [List.getElem?_drop, show b + (cur - b) = cur by omega, List.getElem?_eq_getElem hcur]; rfl
        rw [e]
      · refine (sw_words x limit hl m (cur + 1) (words.push (b, cur)) none (by omega) (by simp; omega) (fun b' hb' => by cases hb')).trans ?_
        rw [wl]
        have hne : ((x.cps.toList.drop b).take (cur - b)).isEmpty = false := by
          rw [List.isEmpty_eq_false_iff_exists_mem]
          refine ⟨_, List.getElem_mem (n := 0) ?_⟩
          rw [List.length_take, List.length_drop, hlen]; omega
        simp only [hsp, if_true, hne, Bool.false_eq_true, if_false]
        rw [Array.toList_push, List.map_append, List.map_cons, List.map_nil, List.map_cons, strSub_list]
        simp
theorem words_eq (x : Str) : Txt.words x = (wl x.cps.toList []).map strOf := by
  have key := sw_words x (x.length + 1) (Nat.lt_succ_self _) x.length 0 #[] none (by omega) (by simp) (fun b h => by cases h)
  rw [← StrLaws.sw_eq] at key
  have e : PySem.wordsOf x = (Builtin.Str.spaceWords x (x.length + 1)).map fun (p : Nat × Nat) => Builtin.Str.strSub x p.1 p.2 := by
    unfold PySem.wordsOf
    apply List.map_congr_left
    intro ⟨i, j⟩ _
    rfl
  simp at key
  unfold Txt.words
  split
  · rename_i h
    rw [← key, eq_of_beq h]
    simp only [List.map_cons, List.map_nil]
    congr 1
    rw [strSub_list]
    unfold strOf
    simp
    rw [List.take_of_length_le (by simp [Str.length])]
  · rw [e, key]

def widen (k : Nat) : List Nat := if k = 32 then [32, 32, 32] else [k]
theorem space32 : Unicode.isSpace 32 = true := by decide +kernel
theorem wl_space (r cur : List Nat) : wl (32 :: r) cur = if cur.isEmpty then wl r [] else cur :: wl r [] := by
  rw [wl]; simp [space32]
theorem wl_widen : ∀ (l cur : List Nat), wl (l.flatMap widen) cur = wl l cur
  | [], cur => rfl
  | k :: r, cur => by
    rw [List.flatMap_cons]
    by_cases h : k = 32
    · subst h
      have e : widen 32 = [32, 32, 32] := rfl
      rw [e]
      simp only [List.cons_append, List.nil_append]
      rw [wl_space, wl_space, wl_space, wl_space, wl_widen r []]
      simp
    · have e : widen k = [k] := by simp [widen, h]
      rw [e]
      simp only [List.cons_append, List.nil_append]
      rw [wl, wl, wl_widen r [], wl_widen r (cur ++ [k])]
theorem widen_free (l : List Nat) (hp : 32 ∉ l) : l.flatMap widen = l := by
  induction l with
  | nil => rfl
  | cons k r ih =>
    rw [List.flatMap_cons, ih (fun q => hp (List.mem_cons_of_mem _ q))]
    have : k ≠ 32 := fun q => hp (q ▸ List.mem_cons_self ..)
    simp [widen, this]
theorem widen_join : ∀ parts : List Str, (∀ p ∈ parts, 32 ∉ p.cps.toList) → (Str.join ⟨#[32]⟩ parts).cps.toList.flatMap widen = (Str.join ⟨#[32, 32, 32]⟩ parts).cps.toList
  | [], _ => rfl
  | [p], h => widen_free _ (h p (List.mem_singleton.mpr rfl))
  | p :: q :: r, h => by
    have ih := widen_join (q :: r) fun a ha => h a (List.mem_cons_of_mem _ ha)
    have h1' : p.cps.toList.flatMap widen = p.cps.toList := widen_free _ (h p (List.mem_cons_self ..))
    show (p ++ ⟨#[32]⟩ ++ Str.join ⟨#[32]⟩ (q :: r)).cps.toList.flatMap widen = (p ++ ⟨#[32, 32, 32]⟩ ++ Str.join ⟨#[32, 32, 32]⟩ (q :: r)).cps.toList
    simp only [Str.cps_append, Array.toList_append]
    rw [List.flatMap_append, List.flatMap_append, ih, h1']
    rfl
theorem replace_widen (x : Str) : (Txt.replace x ⟨#[32]⟩ ⟨#[32, 32, 32]⟩).cps.toList = x.cps.toList.flatMap widen := by
  rw [StrLaws.replace_one, ← widen_join _ (StrLaws.split_free x 32), StrLaws.join_split]
/-- blanks more or less leave the words -/
theorem words_wide (x : Str) : Txt.words ((⟨#[32, 32]⟩ : Str) ++ Txt.replace x ⟨#[32]⟩ ⟨#[32, 32, 32]⟩) = Txt.words x := by
  rw [words_eq, words_eq]
  congr 1
  rw [Str.cps_append, Array.toList_append, replace_widen]
  show wl (32 :: 32 :: x.cps.toList.flatMap widen) [] = _
  rw [wl_space, wl_space, wl_widen]
  rfl
end Mine
end

/-! ## P3 -/
section
set_option maxRecDepth 100000
namespace Mine

/-! ### one letter changed -/
def dueI (L p q : Int) : Int := max 0 (min p (L - q) - max 0 (p - q + 1) + 1)
def holds (p q : Nat) (j : Nat) : Bool := decide (j ≤ p) && decide (p < j + q)
theorem cnt_holds (p q : Nat) : ∀ k : Nat, cnt (holds p q) k = max 0 (min (k : Int) ((p : Int) + 1) - max 0 ((p : Int) + 1 - q))
  | 0 => by rw [cnt]; omega
  | k + 1 => by
    rw [cnt, cnt_holds p q k]
    unfold holds
    by_cases h1 : k ≤ p <;> by_cases h2 : p < k + q <;> simp [h1, h2] <;> omega
theorem cnt_due (L p q : Nat) (hp : p < L) (hq : 1 ≤ q) : cnt (holds p q) (L + 1 - q) = dueI L p q := by
  rw [cnt_holds]
  unfold dueI
  omega

theorem eqvAll_refl' : ∀ {xs : List PyData}, (∀ a ∈ xs, PyData.eqv a a = true) → PyData.eqvAll xs xs = true
  | [], _ => by rw [PyData.eqvAll]
  | x :: xs, h => by
    rw [PyData.eqvAll, h x (List.mem_cons_self ..), eqvAll_refl' fun a ha => h a (List.mem_cons_of_mem _ ha)]; rfl
theorem eqvAll_false {z : PyData} : ∀ {as bs : List PyData} (k : Nat), bs[k]? = some z → (∀ a ∈ as, PyData.eqv a z = false) → PyData.eqvAll as bs = false
  | [], b :: bs, _, _, _ => by rw [PyData.eqvAll]
  | a :: as, b :: bs, 0, h, ha => by
    simp at h; subst h
    rw [PyData.eqvAll, ha a (List.mem_cons_self ..)]; rfl
  | a :: as, b :: bs, k + 1, h, ha => by
    rw [PyData.eqvAll, eqvAll_false k (by simpa using h) fun c hc => ha c (List.mem_cons_of_mem _ hc), Bool.and_false]
  | _, [], _, h, _ => by simp at h

theorem win_len (xs : List PyData) (q : Nat) : (win xs q).length = xs.length + 1 - q := by simp [win]
theorem win_getD (xs : List PyData) (q i : Nat) (h : i < xs.length + 1 - q) : (win xs q).getD i .none = .tuple ((xs.drop i).take q) := by
  unfold win
  rw [List.getD_eq_getElem?_getD, List.getElem?_map, List.getElem?_range h]; rfl
theorem win_eqAt (xs ys : List PyData) (q i j : Nat) (hi : i < xs.length + 1 - q) (hj : j < ys.length + 1 - q) : eqAt (win xs q) (win ys q) i j = PyData.eqvAll ((xs.drop i).take q) ((ys.drop j).take q) := by
  unfold eqAt
  rw [win_getD _ _ _ hi, win_getD _ _ _ hj, PyData.eqv]

section
variable {xs : List PyData} {p q : Nat} {z : PyData} (hself : ∀ a ∈ xs, PyData.eqv a a = true) (hz : ∀ a ∈ xs, PyData.eqv a z = false) (hp : p < xs.length) (hq : 1 ≤ q)
include hp hz in
theorem chg_off {i j : Nat} (hi : i < xs.length + 1 - q) (hj : j < xs.length + 1 - q) (h : holds p q j = true) : eqAt (win xs q) (win (xs.set p z) q) i j = false := by
  rw [win_eqAt _ _ _ _ _ hi (by simpa using hj)]
  simp only [holds, Bool.and_eq_true, decide_eq_true_eq] at h
  refine eqvAll_false (p - j) ?_ fun a ha => hz a (List.mem_of_mem_drop (List.mem_of_mem_take ha))
  rw [List.getElem?_take_of_lt (by omega), List.getElem?_drop, show j + (p - j) = p by omega, List.getElem?_set_self hp]
include hself in
theorem chg_on {j : Nat} (hj : j < xs.length + 1 - q) (h : holds p q j = false) : eqAt (win xs q) (win (xs.set p z) q) j j = true := by
  rw [win_eqAt _ _ _ _ _ hj (by simpa using hj)]
  have e : ((xs.set p z).drop j).take q = (xs.drop j).take q := by
    apply List.ext_getElem?
    intro k
    by_cases hk : k < q
    · rw [List.getElem?_take_of_lt hk, List.getElem?_take_of_lt hk, List.getElem?_drop, List.getElem?_drop, List.getElem?_set_ne]
      intro e
      simp only [holds, Bool.and_eq_false_iff, decide_eq_false_iff_not] at h
      omega
    · rw [List.getElem?_eq_none (by rw [List.length_take]; omega), List.getElem?_eq_none (by rw [List.length_take]; omega)]
  rw [e]
  exact eqvAll_refl' fun a ha => hself a (List.mem_of_mem_drop (List.mem_of_mem_take ha))
theorem cnt_step (g : Nat → Bool) (k : Nat) : cnt g k ≤ cnt g (k + 1) ∧ cnt g (k + 1) ≤ cnt g k + 1 := by
  rw [cnt]; split <;> omega
theorem cnt_le (g : Nat → Bool) (k : Nat) : cnt g k ≤ k := (cnt_bounds g k).2
theorem tab_low {eq : Nat → Nat → Bool} {g : Nat → Bool} {N : Nat} (h : ∀ i j, i < N → j < N → g j = true → eq i j = false) : ∀ i j, i ≤ N → j ≤ N → cnt g j ≤ tab eq i j
  | 0, j, _, _ => by rw [tab]; exact cnt_le g j
  | i + 1, 0, _, _ => by rw [tab, cnt]; omega
  | i + 1, j + 1, hi, hj => by
    rw [tab]
    have h1 := tab_low h i j (by omega) (by omega)
    have h2 := tab_low h i (j + 1) (by omega) hj
    have h3 := tab_low h (i + 1) j hi (by omega)
    have h4 := cnt_step g j
    have h5 : cnt g (j + 1) ≤ cnt g j + if eq i j then 0 else 1 := by
      rw [cnt]
      cases hg : g j with
      | false => simp; split <;> omega
      | true => rw [h i j (by omega) (by omega) hg]; simp
    split at h5 <;> simp_all <;> omega
theorem tab_up {eq : Nat → Nat → Bool} {g : Nat → Bool} {N : Nat} (h : ∀ j, j < N → g j = false → eq j j = true) : ∀ j, j ≤ N → tab eq j j ≤ cnt g j
  | 0, _ => by rw [tab, cnt]; omega
  | j + 1, hj => by
    have ih := tab_up h j (by omega)
    rw [tab, cnt]
    cases hg : g j with
    | false => rw [h j (by omega) hg]; simp; omega
    | true =>
      simp only [if_true]
      split <;> omega
include hself hz hp hq in
theorem chg_lev : ansD (win xs q) (win (xs.set p z) q) (levD (win xs q) (win (xs.set p z) q)) = dueI xs.length p q := by
  rw [lev_least, leastD_eq, win_len, win_len, List.length_set, ← cnt_due _ _ _ hp hq]
  refine Int.le_antisymm (tab_up (g := holds p q) (fun j hj h => chg_on hself hj h) _ (Nat.le_refl _)) (tab_low (fun i j hi hj h => chg_off hz hp hi hj h) _ _ (Nat.le_refl _) (Nat.le_refl _))
include hself hz hp hq in
theorem chg_ham : ansD (win xs q) (win (xs.set p z) q) (hamD (win xs q) (win (xs.set p z) q)) = dueI xs.length p q := by
  rw [← cnt_due _ _ _ hp hq]
  have hN : ∀ j, j < xs.length + 1 - q → hamNe (win xs q) (win (xs.set p z) q) j = holds p q j := fun j hj => by
    unfold hamNe
    rw [padD_getD, padD_getD, win_len, win_len, List.length_set, if_pos hj, if_pos hj]
    have e : PyData.eqv ((win xs q).getD j .none) ((win (xs.set p z) q).getD j .none) = eqAt (win xs q) (win (xs.set p z) q) j j := rfl
    rw [e]
    cases h : holds p q j with
    | false => rw [chg_on hself hj h]; rfl
    | true => rw [chg_off hz hp hj hj h]; rfl
  unfold ansD
  split
  · rename_i h
    rw [PyData.eqv] at h
    obtain ⟨_, h2⟩ := eqvAll_at h
    symm
    refine cnt_none _ fun j hj => ?_
    cases h' : holds p q j with
    | false => rfl
    | true =>
      have := h2 j (by rw [win_len]; exact hj)
      rw [chg_off hz hp hj hj h'] at this; cases this
  · rename_i h
    have hne : xs.length + 1 - q ≠ 0 := fun e => by
      apply h
      rw [PyData.eqv]
      exact eqvAll_of (by rw [win_len, win_len, List.length_set]) fun i hi => by rw [win_len, e] at hi; omega
    have h1 : (win xs q).isEmpty = false := by
      cases h1 : win xs q with
      | nil => have := win_len xs q; rw [h1] at this; simp at this; omega
      | cons => rfl
    have h2 : (win (xs.set p z) q).isEmpty = false := by
      cases h2 : win (xs.set p z) q with
      | nil => have := win_len (xs.set p z) q; rw [h2, List.length_set] at this; simp at this; omega
      | cons => rfl
    rw [h1, h2]
    simp only [Bool.not_false, Bool.and_self, if_true]
    unfold hamD
    rw [win_len, win_len, List.length_set, Nat.max_self]
    exact cnt_congr _ hN
end
/-- nothing apart from itself -/
theorem ans_self {xs : List PyData} (h : ∀ a ∈ xs, PyData.eqv a a = true) (f : Int) : ansD xs xs f = 0 := by
  unfold ansD
  rw [PyData.eqv, eqvAll_refl' h]; rfl
end Mine
end

/-! ## F53 -/
section
set_option maxRecDepth 100000
namespace Mine

/-! ### built-in calls of texts -/
theorem signs_VL {hb : Heap} {x : Str} {acc : Array Value} (h : ItemsOf (SignAt x) acc x.cps.size) : VL hb acc.toList ((signsD x).map .py) := by
  obtain ⟨hsz, hall⟩ := h
  refine VL.of_get (by simp [signsD, hsz]) fun k d e => ?_
  have hk : k < x.cps.size := by
    have := (List.getElem?_eq_some_iff.mp e).1
    simpa [signsD] using this
  have hk' : k < acc.size := by omega
  obtain ⟨c, u, hc, hv⟩ := hall k acc[k] (by simp [hk'])
  refine ⟨acc[k], by simp [hk'], ?_⟩
  have : d = .py (.str ⟨#[c]⟩) := by
    simp only [signsD, List.map_map, List.getElem?_map, Option.map_eq_some_iff] at e
    obtain ⟨q, hq, rfl⟩ := e
    rw [Array.getElem?_toList, hc] at hq; cases hq; rfl
  rw [this, hv]; exact V.str
theorem FnC.list_str {w : World} {n : Nat} {P : Heap → Prop} {x : Str} (hx : x.length ≤ 1000) : FnC w (.type "list") n P [.py (.str x)] [] (fun h v => V h v (.py (.list (signsD x)))) := by
  intro A l s hb R B hP a ha E
  obtain ⟨v, rfl, hv⟩ := ha.one
  obtain ⟨t, rfl⟩ := hv.str_inv
  have hsz : x.cps.size ≤ 1000 := hx
  exact call_list_str R.han x t (hn := by rw [sizeLine_eq]; omega) fun h' tk acc c hk hn hi => B.newList ⟨h', tk, rfl, hk⟩ (fresh_size _) hn rfl rfl (signs_VL hi)
theorem FnC.tuple_str {w : World} {n : Nat} {P : Heap → Prop} {x : Str} (hx : x.length ≤ 1000) : FnC w (.type "tuple") n P [.py (.str x)] [] (fun h v => V h v (.py (.tuple (signsD x)))) := by
  intro A l s hb R B hP a ha E
  obtain ⟨v, rfl, hv⟩ := ha.one
  obtain ⟨t, rfl⟩ := hv.str_inv
  have hsz : x.cps.size ≤ 1000 := hx
  refine call_tuple_str R.han x t (hsz := by rw [sizeLine_eq]; omega) fun h' tk acc hk hi => ?_
  have hn : s.heap.get? h'.objs.size = none := by
    cases e : s.heap.get? h'.objs.size with
    | none => rfl
    | some o => exact absurd (Heap.lt_size (hk _ _ e)) (Nat.lt_irrefl _)
  exact B.newTuple ⟨_, tk, rfl, fun b o e => Heap.get?_push_of_some _ (hk b o e)⟩ hn (Heap.get?_push_size _ rfl) rfl rfl (signs_VL hi)

section
variable {c : Ctx} {ρ ρ' : Rho} {O O' : List Own} {hb hb' : Heap} {s s' : Shared}
theorem TR.or3 {e₁ e₂ e₃ : Expr} {pos : Pos} {b₁ b₂ b₃ : Bool} (h₁ : TR c ρ O e₁ b₁) (h₂ : b₁ = false → TR c ρ O e₂ b₂) (h₃ : b₁ = false → b₂ = false → TR c ρ O e₃ b₃) : TR c ρ O (.BoolOp .Or [e₁, e₂, e₃] pos) (b₁ || b₂ || b₃) := by
  intro s hb S E
  refine isTrue_or (wpx S h₁ fun v s₁ hb₁ x₁ S₁ r₁ => ?_)
  subst r₁
  cases v with
  | true => exact ⟨hb₁, x₁, rfl⟩
  | false =>
    refine isTrue_or (wpx S₁ (h₂ rfl) fun v s₂ hb₂ x₂ S₂ r₂ => ?_)
    subst r₂
    cases v with
    | true => exact ⟨hb₂, x₁.trans S.base x₂, rfl⟩
    | false =>
      refine isTrue_or (wpx S₂ (h₃ rfl rfl) fun v s₃ hb₃ x₃ S₃ r₃ => ?_)
      subst r₃
      cases v with
      | true => exact ⟨hb₃, (x₁.trans S.base x₂).trans S.base x₃, rfl⟩
      | false => exact isTrue_or_nil ⟨hb₃, (x₁.trans S.base x₂).trans S.base x₃, rfl⟩
end
end Mine
end

/-! ## F54 -/
section
set_option maxRecDepth 100000
namespace Mine

section
variable {c : Ctx} {ρ ρ' : Rho} {O O' : List Own} {hb hb' : Heap} {s s' : Shared}
/-- a comprehension over range(b), b of any sign -/
theorem FX.compRangeI {scope : Scope} (ns : List Str) {elt iter : Expr} {x : Str} {px : Pos} {pos : Pos} {b : Int} {g : Nat → PyData}
    (hr : TX c ρ O (eval iter c.env) (RgV 0 b)) (hlo : -100000 ≤ b) (hn : b ≤ 100000)
    (helt : ∀ C s hb O i, i < b.toNat → EX (cctx c scope C s hb) (put (keepNames ns ρ) x (.py (.int i))) O elt (.py (g i)))
    (hfree : scope.names.all (fun x => x.2 != .free || (c.env.cells.lookup x.1).isSome) = true := by rfl) (hkind : scope.kind = .function := by rfl) (hnames : ∀ x ∈ scope.names, x.2 = .local → scope.names.lookup x.1 = some .local := by decide)
    (hvis : ∀ y ∈ ns, Vis c scope y) (hx : ∀ C s hb, Sto (cctx c scope C s hb) x)
    (hs : ∀ x, foldedSetIterable iter c.env x = pure x := by intro _; rfl) :
    FX c ρ O (eval (.ListComp elt [⟨.Name x px, iter, [], 0⟩] scope pos) c.env) ((List.range b.toNat).map g) := by
  have hl : (rngD 0 b).length = b.toNat := by rw [rngD_length]; omega
  have := FX.comp (c := c) (ρ := ρ) (O := O) (px := px) (pos := pos) (ds := rngD 0 b) (ns := ns) (p := fun _ => true) (g := g) (ifs := []) (by
      have h := IX.range hr (by decide) (by decide) (by omega) (by omega)
      rw [hl]; simpa using h) (by rw [hl, sizeLine_eq]; omega) hfree hkind hnames hvis hx (fun C s hb O i d hd => TX.noTests) (fun C s hb O i d hd _ => by
      obtain ⟨h1, rfl⟩ := rngD_at hd
      rw [Int.zero_add]
      exact helt C s hb O i (by omega)) hs
  rw [hl, List.filter_eq_self.mpr (fun _ _ => rfl)] at this
  exact this
/-- a comprehension over range(n) with one test -/
theorem FX.compTest {scope : Scope} (ns : List Str) {elt iter test : Expr} {x : Str} {px : Pos} {pos : Pos} {n : Nat} {p : Nat → Bool} {g : Nat → PyData}
    (hr : TX c ρ O (eval iter c.env) (RgV 0 n)) (hn : n ≤ 100000)
    (htest : ∀ C s hb O i, i < n → TR (cctx c scope C s hb) (put (keepNames ns ρ) x (.py (.int i))) O test (p i))
    (helt : ∀ C s hb O i, i < n → EX (cctx c scope C s hb) (put (keepNames ns ρ) x (.py (.int i))) O elt (.py (g i)))
    (hfree : scope.names.all (fun x => x.2 != .free || (c.env.cells.lookup x.1).isSome) = true := by rfl) (hkind : scope.kind = .function := by rfl) (hnames : ∀ x ∈ scope.names, x.2 = .local → scope.names.lookup x.1 = some .local := by decide)
    (hvis : ∀ y ∈ ns, Vis c scope y) (hx : ∀ C s hb, Sto (cctx c scope C s hb) x)
    (hs : ∀ x, foldedSetIterable iter c.env x = pure x := by intro _; rfl) :
    FX c ρ O (eval (.ListComp elt [⟨.Name x px, iter, [test], 0⟩] scope pos) c.env) (((List.range n).filter p).map g) := by
  have := FX.comp (c := c) (ρ := ρ) (O := O) (px := px) (pos := pos) (ds := rngD 0 n) (ns := ns) (p := p) (g := g) (ifs := [test]) (by
      have h := IX.range hr (by decide) (by decide) (by omega) (by omega)
      rw [rngD_len]; simpa using h) (by rw [rngD_len, sizeLine_eq]; omega) hfree hkind hnames hvis hx (fun C s hb O i d hd => by
      obtain ⟨h1, rfl⟩ := rngD_get hd
      exact TX.oneTest (htest C s hb O i h1)) (fun C s hb O i d hd _ => by
      obtain ⟨h1, rfl⟩ := rngD_get hd
      exact helt C s hb O i h1) hs
  rw [rngD_len] at this
  exact this

/-! ### keyword arguments -/
theorem ArgX.kw2 {n₁ n₂ : Str} {e₁ e₂ : Expr} {p₁ p₂ : Pos} {d₁ d₂ : D} (h₁ : EX c ρ O e₁ d₁) (h₂ : EX c ρ O e₂ d₂) : ArgX c ρ O [] [⟨some n₁, e₁, p₁⟩, ⟨some n₂, e₂, p₂⟩] [] [(n₁, d₁), (n₂, d₂)] := by
  intro f pos s hb S E
  refine evalArgs_kw2_nil rfl (kwAll_cons (wpx S h₁ fun v₁ s₁ hb₁ x₁ S₁ r₁ => kwAll_cons (wpx S₁ h₂ fun v₂ s₂ hb₂ x₂ S₂ r₂ => kwAll_nil ?_)))
  exact ⟨hb₂, x₁.trans S.base x₂, .nil, .cons (r₁.up x₂.le) (.cons r₂ .nil)⟩
theorem ArgX.kw1 {n₁ : Str} {e₁ : Expr} {p₁ : Pos} {d₁ : D} (h₁ : EX c ρ O e₁ d₁) : ArgX c ρ O [] [⟨some n₁, e₁, p₁⟩] [] [(n₁, d₁)] := by
  intro f pos s hb S E
  refine evalArgs_kw2_nil rfl (kwAll_cons (wpx S h₁ fun v₁ s₁ hb₁ x₁ S₁ r₁ => kwAll_nil ?_))
  exact ⟨hb₁, x₁, .nil, .cons r₁ .nil⟩
/-- a class of the text is called with keywords -/
theorem EX.mk {x : Str} {p pos : Pos} {kws : List Keyword} {kw : List (Str × D)} {C : Addr} {attrs : List (Str × D)} {n : Nat} (hx : c.env.kindOf x = some .globalImplicit) (hg : ∀ P, nsIn (KG P) mainGlobals x = some (some (.ref C))) (ha : ArgX c ρ O [] kws [] kw)
    (hf : FnC c.w (.ref C) n (Gd c.w) [] kw (InstV C attrs)) (hn : n ≤ c.n) (hk : ∀ P, keepIn (KG P) (.ref C) = true) (hd : (x == ("__debug__" : Str)) = false := by decide) : EX c ρ O (.Call (.Name x p) [] kws pos) (IV C attrs) :=
  TX.sat (TX.callName (EX.glob hx hg hd) ha hf hn (fun _ _ g => g) (keeps_cls hk)) fun _ _ k _ x => x.up k

/-! ### tuples of things, walked -/
theorem tupIter_go {w : World} {A : Around} {E : Value → Shared → Prop} {s : Shared} {I a T : Addr} {i : Nat} {elts : List Expr} {k : Nat} {p : Pos} {Q : Unit → Shared → Prop} (h : s.heap.IsTupleIter I a i) (hQ : Q () s) : wpAny (MM w) A (letOwnedTupleGo (.Tuple elts k p) (.ref I) (.ref T)) Q E s := by
  obtain ⟨o, ho, hc, hd⟩ := h
  unfold letOwnedTupleGo
  refine wpAny_bind (wpAny_load ho ?_)
  rw [hc, hd]
  show wpAny _ _ (if (_ : Bool) = true then _ else _) Q E s
  rw [if_neg (by simp)]
  exact wpAny_pure hQ
theorem tup_walk {d : D} {ds : List D} {e : Expr} (h : EX c ρ O e d) (hd : ∀ hb v, V hb v d → SeqV "tuple" ds hb v) (s : Shared) (hb : Heap) (S : St c ρ O hb s) (E : Value → Shared → Prop) :
    wpAny (MM c.w) c.A (eval e c.env) (fun x s₁ => wpAny (MM c.w) c.A (pyIter x) (fun it s₂ => ∃ hb' I a wr fp P, it = .ref I ∧ Ext c.l s hb s₂ hb' ∧ ItOk c.w it ds.length hb' (ownW wr fp P) (Items ds) ∧ (∀ (i : Nat) (h : Heap), P i h → h.IsTupleIter I a i) ∧
      (∀ i, (ownW wr fp P i).Ok) ∧ P 0 s₂.heap ∧ (∀ b ∈ fp, b ∈ wr ∨ ∃ ob, hb'.get? b = some ob) ∧ ∀ b ∈ wr, s.heap.get? b = none ∧ hb'.get? b = none) E s₁) E s := by
  refine wpx S h fun v s₁ hb₁ x₁ S₁ r₁ => ?_
  obtain ⟨a, o, vs, n, rfl, g1, g2, g3, g4⟩ := hd _ _ r₁
  have hl := g4.length
  rw [Array.length_toList] at hl
  have ho := S₁.base.le _ _ g1
  refine wpAny_pyIter_tuple ⟨o, ho, g2, n, g3⟩ ?_
  have hne : a ≠ s₁.heap.objs.size := Nat.ne_of_lt (Heap.lt_size ho)
  have W := fun (A : Around) (hA : A.handled = none) => Walks.tuple (prog := PW) (w := c.w) (A := A) hA s₁.heap.objs.size a hne vs
  rw [hl] at W
  have hlive : ∀ (i : Nat) (h : Heap), (h.IsTupleIter s₁.heap.objs.size a i ∧ h.IsTuple a vs) → ∀ b ∈ [s₁.heap.objs.size], ∃ ob, h.get? b = some ob ∧ ob.cls ≠ .type "code" := fun i h hp b hb => by
    rcases List.mem_cons.mp hb with rfl | hb
    · obtain ⟨⟨o, ho, hc, _⟩, _⟩ := hp; exact ⟨o, ho, by rw [hc]; decide⟩
    · cases hb
  have W0 := W {} rfl
  refine ⟨hb₁, s₁.heap.objs.size, a, _, _, _, rfl, x₁.trans S.base (S₁.same (keeps_push s₁ _ s₁.toks)), ItOk.of_walks W (fun i v hb hi hle hP => ?_) hlive, fun i h hp => hp.1, fun i => ⟨W0.sub, fun h h' hp k => W0.frame i h h' hp k, hlive i⟩, ⟨⟨_, Heap.get?_push_size _ rfl, rfl, rfl⟩, o, Heap.get?_push_of_some _ ho, g2, n, g3⟩, fun b hb => ?_, fun b hb => ?_⟩
  · obtain ⟨u, hu, hv⟩ := g4.get (d := ds[i]) (i := i) (by simp [hi])
    refine ⟨ds[i], by simp [hi], ?_⟩
    have : v = u := by
      rw [Array.getElem?_toList, hP] at hu; exact Option.some.inj hu
    exact this ▸ hv.up hle
  · rcases List.mem_cons.mp hb with rfl | hb
    · exact .inl (List.mem_cons_self ..)
    · rcases List.mem_cons.mp hb with rfl | hb
      · exact .inr ⟨o, g1⟩
      · cases hb
  · rcases List.mem_cons.mp hb with rfl | hb
    · have hn := fresh_size s₁.heap
      refine ⟨x₁.kp.none S.base.tab hn, ?_⟩
      cases e : hb₁.get? s₁.heap.objs.size with
      | none => rfl
      | some o => rw [S₁.base.le _ _ e] at hn; cases hn
    · cases hb
theorem IX.tv {e : Expr} {ds : List D} (h : EX c ρ O e (TV ds)) : IX c ρ O (eval e c.env) ds.length (Items ds) := by
  intro s hb S E
  refine wpAny_mono (tup_walk h (fun _ _ x => x.out) s hb S E) (fun x s₁ h₁ => wpAny_mono h₁ (fun it s₂ ⟨hb', I, a, wr, fp, P, hi, X, It, hP, hok, h0, hfp, hwr⟩ => ?_) fun _ _ e => e) fun _ _ e => e
  exact ⟨hb', _, X, It, hok, h0, hfp, hwr⟩
theorem IXT.tup {e : Expr} {rows : List (List D)} (h : EX c ρ O e (TV (rows.map TV))) : IXT c ρ O (eval e c.env) rows.length (fun i => rows.getD i []) := by
  intro s hb S E
  refine wpAny_mono (tup_walk h (fun _ _ x => x.out) s hb S E) (fun x s₁ h₁ => wpAny_mono h₁ (fun it s₂ ⟨hb', I, a, wr, fp, P, hi, X, It, hP, hok, h0, hfp, hwr⟩ => ?_) fun _ _ e => e) fun _ _ e => e
  subst hi
  rw [List.length_map] at It
  refine ⟨hb', _, X, ItT.of_itok It (fun i hb v hi hv => ?_) (fun i s elts k p T A E Q hp hQ => tupIter_go (hP i _ hp) (hQ s.heap hp fun _ _ _ e => e)), hok, h0, hfp, hwr⟩
  obtain ⟨d, hd, hv⟩ := hv
  rw [List.getElem?_map] at hd
  obtain ⟨r, hr, rfl⟩ := Option.map_eq_some_iff.mp hd
  rw [List.getD_eq_getElem?_getD, hr]
  exact hv.out
/-- a zip, walked in rows -/
theorem IXT.zip {x : Str} {p pos : Pos} {args : List Expr} {ds : List D} {dsl : List (List D)} {n : Nat} (hx : EX c ρ O (.Name x p) (.raw (.type "zip"))) (ha : ArgX c ρ O args [] ds []) (hi : ItbL ds dsl) (hl : ds.length ≤ 5)
    (hne : dsl ≠ []) (hge : ∀ ds ∈ dsl, n ≤ ds.length) (hex : ∃ ds ∈ dsl, ds.length = n) : IXT c ρ O (eval (.Call (.Name x p) args [] pos) c.env) n (rowD dsl) := by
  intro s hb S E
  refine wpAny_Call_Name_kw (wpx S hx fun v s₁ hb₁ x₁ S₁ r₁ => ?_)
  cases r₁
  refine callWith_gen (wpx S₁ (ha _ _) fun a s₂ hb₂ x₂ S₂ r₂ => ⟨⟨_, .of_pure rfl⟩, ?_⟩)
  obtain ⟨pos', kw⟩ := a
  obtain ⟨hv, hk⟩ := r₂
  cases hk
  refine call_zip hv hi S₂.base.le hl fun dl h' z TI TO hds hok hap hst hfp hle nz nTI nTO nit => ?_
  have hlen : dsl.length = ds.length := by
    clear hge hex hne ha hl hv hds
    induction hi with
    | nil => rfl
    | cons _ _ ih => simp [ih]
  obtain ⟨hb', X, k₄, hf, hw⟩ := zip_taken S₂ hds hok hap hst hfp hle nz nTI nTO nit
  refine pyIter_zip hst ?_
  refine ⟨hb', zOwn dl z TI TO, (x₁.trans S.base x₂).trans S.base X, ?_, zOwn_ok hok hap, hst, hf, fun b hb => ⟨(x₁.trans S.base x₂).kp.none S.base.tab (hw b hb).1, (hw b hb).2⟩⟩
  have I := (zip_it (w := c.w) hds hok hap hne hge hex (by omega)).up k₄
  refine ItT.of_itok I (fun i hb v hi hv => hv) fun i s elts k p T A E Q hp hQ => ?_
  refine letGo_zip hok hap hp fun h' hZ hs' => hQ h' hZ fun b o hb e => hs'.extBut b o (fun q => hb (q ▸ List.mem_cons_self ..)) e
end
end Mine
end

/-! ## F55 -/
section
set_option maxRecDepth 100000
namespace Mine

section
variable {c : Ctx} {ρ ρ' : Rho} {O O' : List Own} {hb hb' : Heap} {s s' : Shared}
/-- 'a' + x.replace('y', 'z') -/
theorem EX.padReplace {x : Str} {a y z txt : Str} {k k₁ k₂ : Nat} {p p₁ p₂ p₃ apos pos bp : Pos} (hx : ρ x = some (.py (.str txt))) (hyz : (y == z) = false) (hb1 : txt.length + (txt.length + 1) * z.length ≤ 16777216) (hb2 : a.length + (Txt.replace txt y z).length ≤ sizeLine)
    (hd : (x == ("__debug__" : Str)) = false := by decide) (hn : (x == ("__classdict__" : Str)) = false := by decide) (hline : (apos.endLine == pos.line) = true := by rfl)
    (hform : methodCallForm (2 + 0) (backTo pos (starEach [Expr.Constant (.str y) k₁ p₂, Expr.Constant (.str z) k₂ p₃] c.env)) (backToKw pos (keywordEach [] c.env)) = true := by rfl)
    (hbase : attributeBase (.Name x p₁) "replace" c.env (eval (.Name x p₁) c.env) = eval (.Name x p₁) c.env := by rfl) :
    EX c ρ O (.BinOp (.Constant (.str a) k p) .Add (.Call (.Attribute (.Name x p₁) "replace" apos) [.Constant (.str y) k₁ p₂, .Constant (.str z) k₂ p₃] [] pos) bp) (.py (.str (a ++ Txt.replace txt y z))) := by
  intro s hb S E
  refine wpAny_BinOp (wpAny_Constant_str ?_)
  have S₁ := S.step (S.tok (s.toks + 1))
  obtain ⟨v, hv, ev⟩ := S₁.nameA (pos := p₁) hx hd hn
  obtain ⟨t, rfl⟩ := hv.str_inv
  rw [arm_eval_Call, hbase]
  refine wpAny_bind (ev _ _ _ (wpAny_bind (wpAny_standAt ?_)))
  have hpos : methodCallPos true (.Name x p₁) c.env apos pos = Pure.pure pos := by unfold methodCallPos; simp [hline]
  unfold methodCall
  have hform' : methodCallForm ([Expr.Constant (.str y) k₁ p₂, Expr.Constant (.str z) k₂ p₃].length + ([] : List Keyword).length) (backTo pos (starEach [Expr.Constant (.str y) k₁ p₂, Expr.Constant (.str z) k₂ p₃] c.env)) (backToKw pos (keywordEach [] c.env)) = true := hform
  rw [hform']
  refine wpAny_bind (wpAny_holding ?_)
  show wpAny _ _ (getMethod (.str txt t) "replace" (do return (← importBound (.Name x p₁) c.env).getD true)) _ _ _
  refine GM.replace ?_
  refine wpAny_bind (wpAny_of_eq hpos ?_)
  refine callWith_gen ?_
  rw [show starEach [Expr.Constant (.str y) k₁ p₂, Expr.Constant (.str z) k₂ p₃] c.env = [(false, eval (.Constant (.str y) k₁ p₂) c.env), (false, eval (.Constant (.str z) k₂ p₃) c.env)] from rfl]
  refine Calls.evalArgs_plain (Calls.spliced_cons (wpAny_Constant_str (k := k₁) (pos := p₂) (Calls.spliced_cons (wpAny_Constant_str (k := k₂) (pos := p₃) (Calls.spliced_nil ⟨⟨_, .of_pure rfl⟩, ?_⟩)))))
  refine SC.replace (Nat.succ_ne_zero _) (Nat.succ_ne_zero _) (Nat.ne_of_lt (Nat.lt_succ_self _)) hyz hb1 fun t' k' => ?_
  refine PyProof.Rows.add_str (fun t'' tk => ⟨hb, S.tok _, V.str⟩) hb2
end

/-! ### the data that are compared -/
theorem elts_shaped {ds : List PyData} (h : ∀ d ∈ ds, Elt d) : PySem.SeqAt.shaped (.list ds) = true := by
  have key : PyData.canLayAll0 ds = true ∧ PyData.depthAll ds ≤ 1 := by
    induction ds with
    | nil => exact ⟨rfl, by simp [PyData.depthAll]⟩
    | cons d ds ih =>
      obtain ⟨a, b⟩ := ih fun x hx => h x (List.mem_cons_of_mem _ hx)
      obtain ⟨a', b'⟩ := (h d (List.mem_cons_self ..)).lay
      refine ⟨by simp [PyData.canLayAll0, a, a'], ?_⟩
      simp only [PyData.depthAll]; omega
  have := key.2
  unfold PySem.SeqAt.shaped
  rw [Bool.and_eq_true, decide_eq_true_eq]
  refine ⟨by simpa [PyData.canLay0] using key.1, ?_⟩
  simp only [PyData.depth]; omega
theorem lists_shaped {xs ys : List PyData} (h1 : ∀ d ∈ xs, Elt d) (h2 : ∀ d ∈ ys, Elt d) : PySem.SeqAt.shaped (.list [.list xs, .list ys]) = true := by
  have a := elts_shaped h1
  have b := elts_shaped h2
  have key : ∀ {ds : List PyData}, (∀ d ∈ ds, Elt d) → PyData.depthAll ds ≤ 1 := fun {ds} h => by
    induction ds with
    | nil => simp [PyData.depthAll]
    | cons d ds ih =>
      have b := ih fun x hx => h x (List.mem_cons_of_mem _ hx)
      have b' := (h d (List.mem_cons_self ..)).lay.2
      simp only [PyData.depthAll]; omega
  have k1 := key h1
  have k2 := key h2
  have ca := PySem.SeqAt.canLay_of_shaped a
  have cb := PySem.SeqAt.canLay_of_shaped b
  simp only [PySem.SeqAt.shaped, Bool.and_eq_true, decide_eq_true_eq]
  refine ⟨?_, ?_⟩
  · simp only [PyData.canLay0, PyData.canLayAll0, Bool.and_true, Bool.and_eq_true] at ca cb ⊢
    exact ⟨ca, cb⟩
  · simp only [PyData.depth, PyData.depthAll]; omega
theorem elt_self {d : PyData} (h : Elt d) : PyData.eqv d d = true := PySem.SeqAt.eqv_refl d h.lay.1
theorem lists_self {xs : List PyData} (h : ∀ d ∈ xs, Elt d) : PyData.eqv (.list xs) (.list xs) = true := by
  rw [PyData.eqv]; exact eqvAll_refl' fun a ha => elt_self (h a ha)

/-- a text of the law -/
def Ok32 (l : List Nat) : Prop := ∀ k ∈ l, k = 97 ∨ k = 98 ∨ k = 32 ∨ k = 120
def Letters (x : Str) : Prop := Ok32 x.cps.toList ∧ x.length ≤ 8
theorem strOk_of {x : Str} (h : ∀ k ∈ x.cps.toList, k < 0x110000) : PyData.strOk x = true := by
  unfold PyData.strOk
  rw [Array.all_eq_true]
  intro i hi
  simpa using h _ (by simp)
theorem ascii_ok {x : Str} (h : Ok32 x.cps.toList) : x.cps.all (· < 128) = true := by
  rw [Array.all_eq_true]
  intro i hi
  have := h x.cps[i] (by simp)
  simp only [decide_eq_true_eq]; omega
theorem Ok32.lt {l : List Nat} (h : Ok32 l) : ∀ k ∈ l, k < 0x110000 := fun k hk => by have := h k hk; omega
theorem sign_ok {k : Nat} (h : k < 0x110000) : PyData.strOk ⟨#[k]⟩ = true := strOk_of fun j hj => by
  simp at hj; omega
theorem win_elt {x : Str} {q : Nat} (h : Ok32 x.cps.toList) : ∀ d ∈ win (signsD x) q, Elt d := by
  intro d hd
  unfold win at hd
  obtain ⟨i, _, rfl⟩ := List.mem_map.mp hd
  have e : ((signsD x).drop i).take q = (((x.cps.toList.drop i).take q).map fun k => (⟨#[k]⟩ : Str)).map .str := by
    simp only [signsD, List.map_take, List.map_drop, List.map_map]
    rfl
  rw [e]
  refine Elt.tup _ fun y hy => ?_
  obtain ⟨k, hk, rfl⟩ := List.mem_map.mp hy
  exact sign_ok (h.lt k (List.mem_of_mem_drop (List.mem_of_mem_take hk)))
theorem win_tup {xs : List PyData} {q : Nat} : ∀ d ∈ win xs q, ∃ ts, d = .tuple ts := fun d hd => by
  obtain ⟨i, _, rfl⟩ := List.mem_map.mp hd
  exact ⟨_, rfl⟩
theorem win_nn {xs : List PyData} {q : Nat} : NN (win xs q) := fun d hd => by
  obtain ⟨ts, rfl⟩ := win_tup d hd
  exact ⟨by rw [PyData.eqv], by rw [PyData.eqv]⟩
theorem win_fit {x y : Str} {q : Nat} (hx : Ok32 x.cps.toList) (hy : Ok32 y.cps.toList) (lx : x.length ≤ 500) (ly : y.length ≤ 500) : Fit (win (signsD x) q) (win (signsD y) q) := by
  refine ⟨fun a ha b hb => ⟨win_elt hx a ha, win_elt hy b hb, ?_⟩, elts_shaped (win_elt hx), elts_shaped (win_elt hy), ?_, ?_⟩
  · obtain ⟨s, rfl⟩ := win_tup a ha
    obtain ⟨t, rfl⟩ := win_tup b hb
    trivial
  · rw [win_len, signsD_len]; omega
  · rw [win_len, signsD_len]; omega
def wordsD (x : Str) : List PyData := (Txt.words x).map .str
theorem wl_mem : ∀ (l cur : List Nat), ∀ w ∈ wl l cur, ∀ k ∈ w, k ∈ l ∨ k ∈ cur
  | [], cur, w, hw, k, hk => by
    rw [wl] at hw
    split at hw
    · cases hw
    · rcases List.mem_singleton.mp hw with rfl
      exact .inr hk
  | a :: r, cur, w, hw, k, hk => by
    rw [wl] at hw
    split at hw
    · split at hw
      · rcases wl_mem r [] w hw k hk with h | h
        · exact .inl (List.mem_cons_of_mem _ h)
        · cases h
      · rcases List.mem_cons.mp hw with rfl | hw
        · exact .inr hk
        · rcases wl_mem r [] w hw k hk with h | h
          · exact .inl (List.mem_cons_of_mem _ h)
          · cases h
    · rcases wl_mem r (cur ++ [a]) w hw k hk with h | h
      · exact .inl (List.mem_cons_of_mem _ h)
      · rcases List.mem_append.mp h with h | h
        · exact .inr h
        · exact .inl (List.mem_singleton.mp h ▸ List.mem_cons_self ..)
theorem words_elt {x : Str} (h : Ok32 x.cps.toList) : ∀ d ∈ wordsD x, Elt d := by
  intro d hd
  obtain ⟨w, hw, rfl⟩ := List.mem_map.mp hd
  rw [words_eq] at hw
  obtain ⟨l, hl, rfl⟩ := List.mem_map.mp hw
  refine Elt.str _ (strOk_of fun k hk => ?_)
  have hk' : k ∈ l := by simpa [strOf] using hk
  rcases wl_mem _ _ l hl k hk' with h' | h'
  · exact h.lt k h'
  · cases h'
theorem words_nn {x : Str} : NN (wordsD x) := fun d hd => by
  obtain ⟨w, _, rfl⟩ := List.mem_map.mp hd
  exact ⟨by rw [PyData.eqv], by rw [PyData.eqv]⟩
theorem words_len {x : Str} : (wordsD x).length ≤ x.length + 1 := by
  have := fact_words x
  rw [wordsD, List.length_map]; omega
theorem words_fit {x y : Str} (hx : Ok32 x.cps.toList) (hy : Ok32 y.cps.toList) (lx : x.length ≤ 500) (ly : y.length ≤ 500) : Fit (wordsD x) (wordsD y) := by
  refine ⟨fun a ha b hb => ⟨words_elt hx a ha, words_elt hy b hb, ?_⟩, elts_shaped (words_elt hx), elts_shaped (words_elt hy), ?_, ?_⟩
  · obtain ⟨s, _, rfl⟩ := List.mem_map.mp ha
    obtain ⟨t, _, rfl⟩ := List.mem_map.mp hb
    trivial
  · have := words_len (x := x); omega
  · have := words_len (x := y); omega
end Mine
end

/-! ## C15 -/
section
set_option maxRecDepth 100000
namespace Mine

/-! ### the three distances -/
structure Kd where
  C : Addr
  A : PyData → List (Str × D)
  val : List PyData → List PyData → Int
def kLev : Kd := ⟨214, levA, levD⟩
def kDam : Kd := ⟨255, damA, damD⟩
def kHam : Kd := ⟨173, hamA, hamD⟩
structure KdOk (k : Kd) : Prop where
  hC : k.C = 173 ∨ k.C = 214 ∨ k.C = 255
  qv : ∀ q, (k.A q).lookup ("qval" : Str) = some (.py q)
  nd : ∀ q, (k.A q).lookup ("distance" : Str) = none
  fd : ∀ P, findIn (KG P) (.ref k.C) "distance" = some (some (.ref 65))
  dist : ∀ (w : World) (q dx dy : PyData) (xs ys : List PyData), Fit xs ys → CoC w (.ref 108) 3 (Gd w) [IV k.C (k.A q), .py dx, .py dy] [] (fun h v => V h v (.py (.list [.list xs, .list ys]))) →
    CoC w (.ref 65) 5 (Gd w) [IV k.C (k.A q), .py dx, .py dy] [] (fun h v => V h v (.py (.int (ansD xs ys (k.val xs ys)))))
theorem ok_lev : KdOk kLev where
  hC := .inr (.inl rfl)
  qv := fun _ => rfl
  nd := fun _ => rfl
  fd := fun _ => by rfl
  dist := fun w q dx dy xs ys F hG => c_distance find_call_lev (fun _ => by rfl) (fun _ => by rfl) (c_lev_call (n := 0) F rfl rfl rfl rfl rfl rfl hG)
theorem ok_dam : KdOk kDam where
  hC := .inr (.inr rfl)
  qv := fun _ => rfl
  nd := fun _ => rfl
  fd := fun _ => by rfl
  dist := fun w q dx dy xs ys F hG => c_distance find_call_dam (fun _ => by rfl) (fun _ => by rfl) (c_dam_call (n := 0) F rfl rfl rfl rfl rfl rfl rfl hG)
theorem ok_ham : KdOk kHam where
  hC := .inl rfl
  qv := fun _ => rfl
  nd := fun _ => rfl
  fd := fun _ => by rfl
  dist := fun w q dx dy xs ys F hG => c_distance find_call_ham (fun _ => by rfl) (fun _ => by rfl) (c_ham_call (n := 0) F rfl rfl rfl rfl rfl rfl hG)

section
variable {k : Kd} (ok : KdOk k) {w : World}
include ok
theorem KdOk.pieces {x y : Str} {q : Nat} (h2 : 2 ≤ q) (h5 : q ≤ 5) (hx : Ok32 x.cps.toList) (hy : Ok32 y.cps.toList) (ax : x.cps.all (· < 128) = true) (ay : y.cps.all (· < 128) = true) (lx : x.length ≤ 500) (ly : y.length ≤ 500) :
    CoC w (.ref 65) 5 (Gd w) [IV k.C (k.A (.int q)), .py (.str x), .py (.str y)] [] (fun h v => V h v (.py (.int (ansD (win (signsD x) q) (win (signsD y) q) (k.val (win (signsD x) q) (win (signsD y) q)))))) :=
  ok.dist w _ _ _ _ _ (win_fit hx hy lx ly) (def_108 (n := 0) fun _ _ _ _ _ => b_get_n ok.hC (ok.qv _) h2 h5 ax ay (by omega) (by omega))
theorem KdOk.none {x y : Str} {q : Nat} (h2 : 2 ≤ q) (h5 : q ≤ 5) (ax : x.cps.all (· < 128) = true) (ay : y.cps.all (· < 128) = true) (lx : x.length < q) (ly : y.length < q) :
    CoC w (.ref 65) 5 (Gd w) [IV k.C (k.A (.int q)), .py (.str x), .py (.str y)] [] (fun h v => V h v (.py (.int 0))) := by
  have e : ∀ {z : Str}, z.length < q → win (signsD z) q = [] := fun {z} h => by
    apply List.eq_nil_of_length_eq_zero
    rw [win_len, signsD_len]; omega
  have F : Fit [] [] := ⟨(fun a ha => by cases ha), by rfl, by rfl, by simp, by simp⟩
  have h := ok.dist w (.int q) (.str x) (.str y) [] [] F (by
    have := def_108 (w := w) (n := 0) (C := k.C) (attrs := k.A (.int q)) (x := .str x) (y := .str y) fun A l s₀ hb₀ L => b_get_n (w := w) (n := 0) (A := A) (l := l) (s₀ := s₀) (hb₀ := hb₀) (L := L) ok.hC (ok.qv _) h2 h5 ax ay (by omega) (by omega)
    rw [e lx, e ly] at this
    exact this)
  have z : ansD [] [] (k.val [] []) = 0 := by
    unfold ansD
    rw [PyData.eqv, PyData.eqvAll]; rfl
  rw [z] at h
  exact h
theorem KdOk.words {x y : Str} {q : PyData} (hh : Handed (.py q)) (ht : TrX (.py q) false) (hx : Ok32 x.cps.toList) (hy : Ok32 y.cps.toList) (lx : x.length ≤ 500) (ly : y.length ≤ 500) :
    CoC w (.ref 65) 5 (Gd w) [IV k.C (k.A q), .py (.str x), .py (.str y)] [] (fun h v => V h v (.py (.int (ansD (wordsD x) (wordsD y) (k.val (wordsD x) (wordsD y)))))) :=
  ok.dist w _ _ _ _ _ (words_fit hx hy lx ly) (def_108 (n := 0) fun _ _ _ _ _ => b_get_w ok.hC (ok.qv _) hh ht (by omega) (by omega))
theorem KdOk.plain {xs ys : List PyData} (F : Fit xs ys) :
    CoC w (.ref 65) 5 (Gd w) [IV k.C (k.A (.int 1)), .py (.list xs), .py (.list ys)] [] (fun h v => V h v (.py (.int (ansD xs ys (k.val xs ys))))) :=
  ok.dist w _ _ _ _ _ F (def_108 (n := 0) fun _ _ _ _ _ => b_get_1 ok.hC (ok.qv _))

theorem EX.dist {c : Ctx} {ρ : Rho} {O : List Own} {q : PyData} {o e₁ e₂ : Expr} {apos pos : Pos} {d₁ d₂ d : D} (ho : EX c ρ O o (IV k.C (k.A q))) (h₁ : EX c ρ O e₁ d₁) (h₂ : EX c ρ O e₂ d₂) (hf : CoC c.w (.ref 65) 5 (Gd c.w) [IV k.C (k.A q), d₁, d₂] [] (fun h v => V h v d)) (hn : 5 ≤ c.n)
    (hs₁ : ∀ env, starEach [e₁, e₂] env = (false, eval e₁ env) :: starEach [e₂] env := by intro _; rfl) (hs₂ : ∀ env, starEach [e₂] env = (false, eval e₂ env) :: starEach [] env := by intro _; rfl)
    (hform : methodCallForm (2 + 0) (backTo pos (starEach [e₁, e₂] c.env)) (backToKw pos (keywordEach [] c.env)) = true := by rfl) (hline : (apos.endLine == pos.line) = true := by rfl)
    (hbase : attributeBase o "distance" c.env (eval o c.env) = eval o c.env := by rfl) : EX c ρ O (.Call (.Attribute o "distance" apos) [e₁, e₂] [] pos) d :=
  TX.meth ho (clsOk ok.hC) (ok.nd q) ok.fd (fun _ => by rfl) (.plain (.cons h₁ (.cons h₂ .nil hs₂) hs₁)) hf.fn (isFn_65.keeps fun _ h => h) hn hform hline hbase
end
end Mine
end

/-! ## C16 -/
section
set_option maxRecDepth 100000
namespace Mine

theorem TR.conv {c : Ctx} {ρ : Rho} {O : List Own} {e : Expr} {b b' : Bool} (h : TR c ρ O e b) (he : b = b') : TR c ρ O e b' := he ▸ h
theorem cut_elt {xs : List PyData} (h : ∀ d ∈ xs, Elt d) (l u : Option Int) : ∀ d ∈ cut xs l u, Elt d := fun d hd => h d (List.mem_of_mem_drop (List.mem_of_mem_take hd))

abbrev LC (w : World) (n : Nat) (A : Around) (l : List Env) (s₀ : Shared) (hb₀ : Heap) (L : Addr) : Ctx := fctx w (n + 6) A l s₀ hb₀ fd_279 L 279 (Gd w)
def lawBody (k : Nat) : List Stmt := (dBody d_law).drop k
def forBody : Stmt → List Stmt
  | .For _ _ b _ _ => b
  | _ => []
def body9 : List Stmt := forBody ((dBody d_law).getD 9 (.Pass noPos))
def body11 : List Stmt := forBody ((dBody d_law).getD 11 (.Pass noPos))

section
variable {w : World} {n : Nat} {A : Around} {l : List Env} {s₀ : Shared} {hb₀ : Heap} {L : Addr} {ρ : Rho} {O : List Own} {one other : Str} {K : Out → Prop}
/-- the count of places, told by a comprehension -/
theorem b_body9 {X Y : List PyData} {q : PyData} (hs : ρ "some" = some (.py (.list [.list X, .list Y]))) (hp : ρ "plain" = some (IV 173 (hamA q))) (h1 : ρ "one" = some (.py (.str one))) (h2 : ρ "other" = some (.py (.str other)))
    (hd : CoC w (.ref 65) 5 (Gd w) [IV 173 (hamA q), .py (.str one), .py (.str other)] [] (fun h v => V h v (.py (.int (ansD X Y (hamD X Y)))))) (eX : ∀ d ∈ X, Elt d) (eY : ∀ d ∈ Y, Elt d) (nX : NN X) (nY : NN Y) (lX : X.length < 1000) (lY : Y.length < 1000)
    (hK : K (.next ρ O)) : SB (LC w n A l s₀ hb₀ L) ρ O body9 K := by
  refine SB.ifFalse (TR.conv (TR.cmp (EX.dist ok_ham (q := q) (EX.name hp) (EX.name h1) (EX.name h2) hd (by show 5 ≤ n + 6; omega)) (d₂ := .py (.int (((diffs X Y).map fun (i : Nat) => PyData.int i).length : Nat))) ?_ CmX.ne_int) ?_) (SB.skip (SB.nil hK))
  · refine EX.call1 (EX.builtin rfl (fun _ => by rfl) rfl) (FX.ex (FX.compTest ["some"] (n := max X.length Y.length) (p := diffAt X Y) (g := fun i => .int i) ?hr (by omega) ?htest (fun C s hb O i hi => EX.name rfl) (hvis := vis_cons (vis rfl rfl (fun _ => rfl) rfl) vis_nil) (hx := fun _ _ _ => stoL rfl rfl))) (FnC.len_list ?hlen) Keeps?.builtin
    case hr =>
      have e : ((max X.length Y.length : Nat) : Int) = max (X.length : Int) (Y.length : Int) := by omega
      rw [e]
      refine TX.callName (EX.builtin rfl (fun _ => by rfl) rfl) (.plain (.cons (d := .py (.int (max (X.length : Int) (Y.length : Int)))) ?_ .nil)) FnC.range1 (Nat.zero_le _) (fun _ _ g => g) Keeps?.type
      refine TX.callName (EX.builtin rfl (fun _ => by rfl) rfl) (.plain (.cons (EX.lenList (zs := X) ?_ rfl lX) (.cons (EX.lenList (zs := Y) ?_ rfl lY) .nil))) FnC.max2 (Nat.zero_le _) (fun _ _ g => g) Keeps?.builtin
      · exact EX.sub (EX.name hs) EX.int (GiX.list (xs := [.list X, .list Y]) (by decide) (by decide) rfl) PySem.F.slot_list_getitem.lookup
      · exact EX.sub (EX.name hs) EX.int (GiX.list (xs := [.list X, .list Y]) (by decide) (by decide) rfl) PySem.F.slot_list_getitem.lookup
    case htest =>
      intro C s hb O i hi
      refine TR.cmp (EX.slice_list (xs := X) (EX.sub (EX.name (d := .py (.list [.list X, .list Y])) hs) EX.int (GiX.list (xs := [.list X, .list Y]) (by decide) (by decide) rfl) PySem.F.slot_list_getitem.lookup) (PX.some (EX.name rfl)) (PX.some (EX.bin (EX.name rfl) EX.int OpX.add_int)) (by rw [sizeLine_eq]; omega))
        (EX.slice_list (xs := Y) (EX.sub (EX.name (d := .py (.list [.list X, .list Y])) hs) EX.int (GiX.list (xs := [.list X, .list Y]) (by decide) (by decide) rfl) PySem.F.slot_list_getitem.lookup) (PX.some (EX.name rfl)) (PX.some (EX.bin (EX.name rfl) EX.int OpX.add_int)) (by rw [sizeLine_eq]; omega))
        (CmX.ne_data (elts_shaped (cut_elt eX _ _)) (elts_shaped (cut_elt eY _ _)))
    case hlen =>
      have : (diffs X Y).length ≤ max X.length Y.length := by
        have := List.length_filter_le (diffAt X Y) (List.range (max X.length Y.length))
        simpa [diffs] using this
      simp only [List.length_map]
      show (diffs X Y).length < _
      omega
  · have := ham_diffs nX nY
    show (ansD X Y (hamD X Y) != _) = false
    rw [List.length_map, this]
    simp
end
end Mine
end

/-! ## C17 -/
section
set_option maxRecDepth 100000
namespace Mine

theorem slice4 {q : Nat} (h2 : 2 ≤ q) (h5 : q ≤ 5) : (Txt.slice "abcd" none (some ((q : Int) - 1))).cps.all (· < 128) = true ∧ (Txt.slice "dcba" none (some ((q : Int) - 1))).cps.all (· < 128) = true ∧
    (Txt.slice "abcd" none (some ((q : Int) - 1))).length < q ∧ (Txt.slice "dcba" none (some ((q : Int) - 1))).length < q := by
  have : q = 2 ∨ q = 3 ∨ q = 4 ∨ q = 5 := by omega
  rcases this with rfl | rfl | rfl | rfl <;> decide +kernel
def wide (x : Str) : Str := ("  " : Str) ++ Txt.replace x " " "   "
theorem wide_list (x : Str) : (wide x).cps.toList = 32 :: 32 :: x.cps.toList.flatMap widen := by
  have e := replace_widen x
  have e1 : (" " : Str) = ⟨#[32]⟩ := by decide +kernel
  have e2 : ("   " : Str) = ⟨#[32, 32, 32]⟩ := by decide +kernel
  have e3 : ("  " : Str) = ⟨#[32, 32]⟩ := by decide +kernel
  unfold wide
  rw [e1, e2, e3, Str.cps_append, Array.toList_append, e]; rfl
theorem wide_words (x : Str) : Txt.words (wide x) = Txt.words x := by
  have e1 : (" " : Str) = ⟨#[32]⟩ := by decide +kernel
  have e2 : ("   " : Str) = ⟨#[32, 32, 32]⟩ := by decide +kernel
  have e3 : ("  " : Str) = ⟨#[32, 32]⟩ := by decide +kernel
  unfold wide
  rw [e1, e2, e3]; exact words_wide x
theorem widen_len : ∀ l : List Nat, (l.flatMap widen).length ≤ 3 * l.length
  | [] => Nat.le_refl _
  | k :: r => by
    rw [List.flatMap_cons, List.length_append, List.length_cons]
    have := widen_len r
    have : (widen k).length ≤ 3 := by unfold widen; split <;> simp
    omega
theorem wide_len (x : Str) : (wide x).length ≤ 3 * x.length + 2 := by
  have e : (wide x).length = (wide x).cps.toList.length := by simp [Str.length]
  have e' : x.length = x.cps.toList.length := by simp [Str.length]
  rw [e, wide_list, e']
  have := widen_len x.cps.toList
  simp only [List.length_cons]; omega
theorem wide_ok {x : Str} (h : Ok32 x.cps.toList) : Ok32 (wide x).cps.toList := by
  intro k hk
  rw [wide_list] at hk
  rcases List.mem_cons.mp hk with rfl | hk
  · exact .inr (.inr (.inl rfl))
  rcases List.mem_cons.mp hk with rfl | hk
  · exact .inr (.inr (.inl rfl))
  obtain ⟨a, ha, hk⟩ := List.mem_flatMap.mp hk
  unfold widen at hk
  split at hk
  · simp at hk; exact .inr (.inr (.inl hk))
  · simp at hk; subst hk; exact h _ ha

section
variable {w : World} {n : Nat} {A : Around} {l : List Env} {s₀ : Shared} {hb₀ : Heap} {L : Addr} {ρ : Rho} {O : List Own} {one other : Str} {K : Out → Prop}
theorem ne_self (i : Int) : (i != i) = false := by simp
/-- the distance of pieces and that of words, each against that of rows -/
theorem b_body11 {k : Kd} (ok : KdOk k) {q : Nat} {wb : PyData} (hbp : ρ "by_pieces" = some (IV k.C (k.A (.int q)))) (hbw : ρ "by_words" = some (IV k.C (k.A wb))) (hp : ρ "plain" = some (IV k.C (k.A (.int 1)))) (h1 : ρ "one" = some (.py (.str one))) (h2 : ρ "other" = some (.py (.str other)))
    (hq : ρ "size" = some (.py (.int q))) (hP : ρ "pieces" = some (.py (.list [.list (win (signsD one) q), .list (win (signsD other) q)]))) (hW : ρ "words" = some (.py (.list [.list (wordsD one), .list (wordsD other)])))
    (q2 : 2 ≤ q) (q5 : q ≤ 5) (hh : Handed (.py wb)) (ht : TrX (.py wb) false) (o1 : Ok32 one.cps.toList) (o2 : Ok32 other.cps.toList) (l1 : one.length ≤ 8) (l2 : other.length ≤ 8) (hK : K (.next ρ O)) : SB (LC w n A l s₀ hb₀ L) ρ O body11 K := by
  have a1 := ascii_ok o1
  have a2 := ascii_ok o2
  have hn : 5 ≤ (LC w n A l s₀ hb₀ L).n := by show 5 ≤ n + 6; omega
  refine SB.ifFalse (TR.conv (TR.or2 (b₁ := false) (b₂ := false) (TR.conv (TR.cmp (EX.dist ok (EX.name hbp) (EX.name h1) (EX.name h2) (ok.pieces q2 q5 o1 o2 a1 a2 (by omega) (by omega)) hn) (EX.dist ok (EX.name hp) ?_ ?_ (ok.plain (win_fit (q := q) o1 o2 (by omega) (by omega))) hn) CmX.ne_int) (ne_self _))
    (fun _ => TR.conv (TR.cmp (EX.dist ok (EX.name hbw) (EX.name h1) (EX.name h2) (ok.words hh ht o1 o2 (by omega) (by omega)) hn) (EX.dist ok (EX.name hp) ?_ ?_ (ok.plain (words_fit o1 o2 (by omega) (by omega))) hn) CmX.ne_int) (ne_self _))) rfl) (SB.skip ?_)
  · exact EX.sub (EX.name hP) EX.int (GiX.list (by decide) (by decide) rfl) PySem.F.slot_list_getitem.lookup
  · exact EX.sub (EX.name hP) EX.int (GiX.list (by decide) (by decide) rfl) PySem.F.slot_list_getitem.lookup
  · exact EX.sub (EX.name hW) EX.int (GiX.list (by decide) (by decide) rfl) PySem.F.slot_list_getitem.lookup
  · exact EX.sub (EX.name hW) EX.int (GiX.list (by decide) (by decide) rfl) PySem.F.slot_list_getitem.lookup
  obtain ⟨c1, c2, c3, c4⟩ := slice4 q2 q5
  have z1 : ansD (win (signsD one) q) (win (signsD one) q) (k.val (win (signsD one) q) (win (signsD one) q)) = 0 := ans_self (fun a ha => elt_self (win_elt o1 a ha)) _
  have z2 : ansD (wordsD one) (wordsD (wide one)) (k.val (wordsD one) (wordsD (wide one))) = 0 := by
    have e : wordsD (wide one) = wordsD one := by unfold wordsD; rw [wide_words]
    rw [e]
    exact ans_self (fun a ha => elt_self (words_elt o1 a ha)) _
  have hwl := wide_len one
  have hrl : (Txt.replace one " " "   ").length + 2 = (wide one).length := by
    unfold wide
    have : ∀ a b : Str, (a ++ b).length = a.length + b.length := fun a b => by simp [Str.length, Str.cps_append]
    rw [this]
    have : ("  " : Str).length = 2 := by decide +kernel
    omega
  refine SB.ifFalse (TR.conv (TR.or3 (b₁ := false) (b₂ := false) (b₃ := false) (TR.conv (TR.cmp (EX.dist ok (EX.name hbp) (EX.slice_str EX.str PX.none (PX.some (EX.bin (EX.name hq) EX.int OpX.sub_int)) (by decide +kernel)) (EX.slice_str EX.str PX.none (PX.some (EX.bin (EX.name hq) EX.int OpX.sub_int)) (by decide +kernel)) (ok.none q2 q5 c1 c2 c3 c4) hn) EX.int CmX.ne_int) (ne_self _))
    (fun _ => TR.conv (TR.cmp (EX.dist ok (EX.name hbp) (EX.name h1) (EX.name h1) (ok.pieces q2 q5 o1 o1 a1 a1 (by omega) (by omega)) hn) EX.int CmX.ne_int) (by rw [z1]; exact ne_self _))
    (fun _ _ => TR.conv (TR.cmp (EX.dist ok (EX.name hbw) (EX.name h1) (d₂ := .py (.str (wide one))) (EX.padReplace h1 (by decide +kernel) ?_ ?_) (ok.words hh ht o1 (wide_ok o1) (by omega) (by omega)) hn) EX.int CmX.ne_int) (by rw [z2]; exact ne_self _))) rfl) (SB.skip (SB.nil hK))
  · have : ("   " : Str).length = 3 := by decide +kernel
    rw [this]; omega
  · have : ("  " : Str).length = 2 := by decide +kernel
    rw [this, sizeLine_eq]; omega
end
end Mine
end

/-! ## C18 -/
section
set_option maxRecDepth 100000
namespace Mine

/-! ### one letter changed, as a text -/
def chgT (x : Str) (p : Nat) : Str := Txt.slice x none (some (p : Int)) ++ "x" ++ Txt.slice x (some ((p : Int) + 1)) none
theorem strSlice_to (x : Str) (i : Nat) (hi : i ≤ x.length) : (Txt.slice x none (some (i : Int))).cps.toList = x.cps.toList.take i := by
  have h := beq_iff_eq.mp (slice_closes_toL (x := x) (j := (i : Int)) (by omega) (by omega))
  rw [h]
  simp
theorem strSlice_mid (x : Str) (i j : Nat) (hij : i ≤ j) (hj : j ≤ x.length) : (Txt.slice x (some (i : Int)) (some (j : Int))).cps.toList = (x.cps.toList.drop i).take (j - i) := by
  have h := beq_iff_eq.mp (slice_closesL (x := x) (i := (i : Int)) (j := (j : Int)) (by omega) (by omega) (by omega))
  rw [h]
  simp only [Int.toNat_natCast]
  have e : ((j : Int) - (i : Int)).toNat = j - i := by omega
  rw [e]
theorem chgT_list (x : Str) (p : Nat) (hp : p < x.length) : (chgT x p).cps.toList = x.cps.toList.set p 120 := by
  have e : ((p : Int) + 1) = ((p + 1 : Nat) : Int) := by omega
  have e1 : ("x" : Str) = ⟨#[120]⟩ := by decide +kernel
  unfold chgT
  rw [e, e1, Str.cps_append, Str.cps_append, Array.toList_append, Array.toList_append, strSlice_to x p (by omega), strSlice_from x (p + 1) (by omega)]
  have hlen : x.cps.toList.length = x.length := by simp [Str.length]
  rw [List.set_eq_take_append_cons_drop, if_pos (by omega)]
  simp
theorem chgT_signs (x : Str) (p : Nat) (hp : p < x.length) : signsD (chgT x p) = (signsD x).set p (.str ⟨#[120]⟩) := by
  unfold signsD
  rw [chgT_list x p hp, List.map_set]
theorem chgT_len (x : Str) (p : Nat) (hp : p < x.length) : (chgT x p).length = x.length := by
  have e : (chgT x p).length = (chgT x p).cps.toList.length := by simp [Str.length]
  have e' : x.length = x.cps.toList.length := by simp [Str.length]
  rw [e, chgT_list x p hp, List.length_set, ← e']
theorem chgT_ok {x : Str} {p : Nat} (hp : p < x.length) (h : Ok32 x.cps.toList) : Ok32 (chgT x p).cps.toList := by
  intro k hk
  rw [chgT_list x p hp] at hk
  rcases List.mem_or_eq_of_mem_set hk with h' | rfl
  · exact h k h'
  · exact .inr (.inr (.inr rfl))
theorem sign_self {x : Str} : ∀ a ∈ signsD x, PyData.eqv a a = true := fun a ha => by
  obtain ⟨k, _, rfl⟩ := List.mem_map.mp ha
  rw [PyData.eqv]; simp
theorem sign_x {x : Str} (h : ∀ k ∈ x.cps.toList, k ≠ 120) : ∀ a ∈ signsD x, PyData.eqv a (.str ⟨#[120]⟩) = false := fun a ha => by
  obtain ⟨k, hk, rfl⟩ := List.mem_map.mp ha
  rw [PyData.eqv, beq_eq_false_iff_ne]
  intro e
  have : (#[k] : Array Nat) = #[120] := congrArg Str.cps e
  exact h k hk (by simpa using this)

abbrev threeD (q : PyData) : List D := [IV 214 (levA q), IV 255 (damA q), IV 173 (hamA q)]
structure LE (ρ : Rho) (xs : List Int) (t₁ t₂ : Str) (q : Nat) (wb : PyData) : Prop where
  script : ρ "script" = some (.py (.list (xs.map .int)))
  one : ρ "one" = some (.py (.str t₁))
  other : ρ "other" = some (.py (.str t₂))
  size : ρ "size" = some (.py (.int q))
  pieces : ρ "pieces" = some (.py (.list [.list (win (signsD t₁) q), .list (win (signsD t₂) q)]))
  words : ρ "words" = some (.py (.list [.list (wordsD t₁), .list (wordsD t₂)]))
  parted : ρ "parted" = some (LV (threeD (.int q)))
  split : ρ "split" = some (LV (threeD wb))
  whole : ρ "whole" = some (LV (threeD (.int 1)))
structure LF (one other : Str) (q : Nat) (wb : PyData) : Prop where
  q2 : 2 ≤ q
  q5 : q ≤ 5
  hh : Handed (.py wb)
  ht : TrX (.py wb) false
  o1 : Ok32 one.cps.toList
  o2 : Ok32 other.cps.toList
  l1 : one.length ≤ 8
  l2 : other.length ≤ 8
  nx : ∀ k ∈ one.cps.toList, k ≠ 120

section
variable {w : World} {n : Nat} {A : Around} {l : List Env} {s₀ : Shared} {hb₀ : Heap} {L : Addr} {ρ : Rho} {one other : Str} {xs : List Int} {q : Nat} {wb : PyData}
/-- the end: one letter changed -/
theorem b_tail (E : LE ρ xs one other q wb) (F : LF one other q wb) (hx : xs.length < 1000) : SB (LC w n A l s₀ hb₀ L) ρ [] (lawBody 12) (fun o => o = .ret (.py (.bool true))) := by
  have hn : 5 ≤ (LC w n A l s₀ hb₀ L).n := by show 5 ≤ n + 6; omega
  have sh : PySem.SeqAt.shaped (.str one) = true := (Elt.str one (strOk_of (F.o1.lt))).shaped
  refine SB.if (k := PyData.eqv (.str one) (.str "")) (TR.cmp (EX.name E.one) EX.str (CmX.eq_data sh (by decide +kernel))) ?_
  cases he : PyData.eqv (.str one) (.str "") with
  | true => exact SB.ret EX.bool rfl
  | false =>
    refine SB.skip ?_
    have hpos : 0 < one.length := by
      rw [PyData.eqv, beq_eq_false_iff_ne] at he
      refine Nat.pos_of_ne_zero fun h0 => he ?_
      have : one.cps = #[] := Array.eq_empty_of_size_eq_zero h0
      have e : ("" : Str) = ⟨#[]⟩ := by decide +kernel
      rw [e]; cases one; simp_all
    have hmod := fmod_lt (a := atD xs 19 3) (b := (one.length : Int)) (by omega)
    obtain ⟨p, hp⟩ : ∃ p : Nat, (p : Int) = (atD xs 19 3).fmod one.length := ⟨((atD xs 19 3).fmod one.length).toNat, by omega⟩
    have hpl : p < one.length := by omega
    have l1 := F.l1
    refine SB.assign (d := .py (.int p)) ?_ (stoL rfl rfl) ?_
    · rw [hp]
      refine EX.bin (EX.fn rfl (fun _ => by rfl) (.plain (.cons (EX.name E.script) (.cons EX.int (.cons EX.int .nil)))) (c_law_at (n := 0) (by decide) hx) isFn_264 (by show 1 ≤ n + 6; omega)) ?_ (OpX.mod_int (by omega))
      exact EX.call1 (EX.builtin rfl (fun _ => by rfl) rfl) (EX.name E.one) (FnC.len_str (by omega)) Keeps?.builtin
    have hs1 := Txt.slice_le one none (some (p : Int))
    have hs2 := Txt.slice_le one (some ((p : Int) + 1)) none
    have happ : ∀ a b : Str, (a ++ b).length = a.length + b.length := fun a b => by simp [Str.length, Str.cps_append]
    have hxl : ("x" : Str).length = 1 := by decide +kernel
    refine SB.assign (d := .py (.str (chgT one p))) ?_ (stoC rfl rfl rfl) ?_
    · refine EX.bin (EX.bin (EX.slice_str (EX.name E.one) PX.none (PX.some (EX.name rfl)) (by rw [sizeLine_eq]; omega)) EX.str (OpX.add_str (by rw [hxl, sizeLine_eq]; omega))) (EX.slice_str (EX.name E.one) (PX.some (EX.bin (EX.name rfl) EX.int OpX.add_int)) PX.none (by rw [sizeLine_eq]; omega)) (OpX.add_str (by rw [happ, hxl, sizeLine_eq]; omega))
    refine SB.assign (d := .py (.int (dueI one.length p q))) ?_ (stoL rfl rfl) ?_
    · have len : ∀ {ρ : Rho} {O : List Own} {p₁ p₂ p₃ : Pos}, ρ "one" = some (.py (.str one)) → EX (LC w n A l s₀ hb₀ L) ρ O (.Call (.Name "len" p₁) [.Name "one" p₂] [] p₃) (.py (.int one.length)) := fun h =>
        EX.call1 (EX.builtin rfl (fun _ => by rfl) rfl) (EX.name h) (FnC.len_str (by omega)) Keeps?.builtin
      refine TX.callName (EX.builtin rfl (fun _ => by rfl) rfl) (.plain (.cons EX.int (.cons (d := .py (.int (min (p : Int) ((one.length : Int) - q) - max 0 ((p : Int) - q + 1) + 1))) ?_ .nil))) FnC.max2 (Nat.zero_le _) (fun _ _ g => g) Keeps?.builtin
      refine EX.bin (EX.bin (d₁ := .py (.int (min (p : Int) ((one.length : Int) - q)))) (d₂ := .py (.int (max 0 ((p : Int) - q + 1)))) ?_ ?_ OpX.sub_int) EX.int OpX.add_int
      · exact TX.callName (EX.builtin rfl (fun _ => by rfl) rfl) (.plain (.cons (EX.name rfl) (.cons (EX.bin (len E.one) (EX.name E.size) OpX.sub_int) .nil))) FnC.min2 (Nat.zero_le _) (fun _ _ g => g) Keeps?.builtin
      · exact TX.callName (EX.builtin rfl (fun _ => by rfl) rfl) (.plain (.cons EX.int (.cons (EX.bin (EX.bin (EX.name rfl) (EX.name E.size) OpX.sub_int) EX.int OpX.add_int) .nil))) FnC.max2 (Nat.zero_le _) (fun _ _ g => g) Keeps?.builtin
    have oc := chgT_ok hpl F.o1
    have lc := chgT_len one p hpl
    have hq1 : 1 ≤ q := by have := F.q2; omega
    have d1 : ansD (win (signsD one) q) (win (signsD (chgT one p)) q) (levD (win (signsD one) q) (win (signsD (chgT one p)) q)) = dueI one.length p q := by
      have := chg_lev (xs := signsD one) (p := p) (q := q) (z := .str ⟨#[120]⟩) sign_self (sign_x F.nx) (by rw [signsD_len]; exact hpl) hq1
      rw [signsD_len, ← chgT_signs one p hpl] at this
      exact this
    have d2 : ansD (win (signsD one) q) (win (signsD (chgT one p)) q) (hamD (win (signsD one) q) (win (signsD (chgT one p)) q)) = dueI one.length p q := by
      have := chg_ham (xs := signsD one) (p := p) (q := q) (z := .str ⟨#[120]⟩) sign_self (sign_x F.nx) (by rw [signsD_len]; exact hpl) hq1
      rw [signsD_len, ← chgT_signs one p hpl] at this
      exact this
    refine SB.ret (d := .py (.bool true)) ?_ rfl
    refine EX.conv (EX.cmp (d₁ := .py (.list [.int (dueI one.length p q), .int (dueI one.length p q)])) (d₂ := .py (.list [.int (dueI one.length p q), .int (dueI one.length p q)])) ?_ (EX.listDisp (.cons (EX.name rfl) (.cons (EX.name rfl) .nil)) (by simp)) (CmX.eq_data (by rfl) (by rfl))) (by simp [PyData.eqv, PyData.eqvAll])
    refine EX.conv (FX.ex (FX.compItems ["changed", "one"] (ds := [IV 214 (levA (.int q)), IV 173 (hamA (.int q))]) (g := fun i => .int (dueI one.length p q)) (IX.tv (EX.tupDisp (.cons (EX.sub (EX.name E.parted) EX.int (GiX.lv (by decide) (by decide) rfl) PySem.F.slot_list_getitem.lookup) (.cons (EX.sub (EX.name E.parted) EX.int (GiX.lv (by decide) (by decide) rfl) PySem.F.slot_list_getitem.lookup) .nil)) (by simp))) (by simp) (fun C s hb O i d hd => ?_)
      (hvis := vis_cons (vis rfl rfl (fun _ => rfl) rfl) (vis_cons (vis rfl rfl (fun _ => rfl) rfl) vis_nil)) (hx := fun _ _ _ => stoL rfl rfl))) rfl
    match i, hd with
    | 0, hd =>
      cases hd
      rw [← d1]
      exact EX.dist ok_lev (EX.name rfl) (EX.name E.one) (EX.name (d := .py (.str (chgT one p))) rfl) (ok_lev.pieces F.q2 F.q5 F.o1 oc (ascii_ok F.o1) (ascii_ok oc) (by omega) (by omega)) hn
    | 1, hd =>
      cases hd
      rw [← d2]
      exact EX.dist ok_ham (EX.name rfl) (EX.name E.one) (EX.name (d := .py (.str (chgT one p))) rfl) (ok_ham.pieces F.q2 F.q5 F.o1 oc (ascii_ok F.o1) (ascii_ok oc) (by omega) (by omega)) hn
    | i + 2, hd => cases hd
end
end Mine
end

/-! ## C19 -/
section
set_option maxRecDepth 100000
namespace Mine

section
variable {w : World} {n : Nat} {A : Around} {l : List Env} {s₀ : Shared} {hb₀ : Heap} {L : Addr} {ρ : Rho} {one other : Str} {xs : List Int} {q : Nat} {wb : PyData}
theorem threeD_get (q : PyData) : (threeD q)[2]? = some (IV 173 (hamA q)) := rfl
/-- the two loops and the test between -/
theorem b_mid (E : LE ρ xs one other q wb) (F : LF one other q wb) (hx : xs.length < 1000) : SB (LC w n A l s₀ hb₀ L) ρ [] (lawBody 9) (fun o => o = .ret (.py (.bool true))) := by
  have hn : 5 ≤ (LC w n A l s₀ hb₀ L).n := by show 5 ≤ n + 6; omega
  have a1 := ascii_ok F.o1
  have a2 := ascii_ok F.o2
  have l1 := F.l1
  have l2 := F.l2
  have wl1 := words_len (x := one)
  have wl2 := words_len (x := other)
  have pl1 : (win (signsD one) q).length ≤ 9 := by rw [win_len, signsD_len]; omega
  have pl2 : (win (signsD other) q).length ≤ 9 := by rw [win_len, signsD_len]; omega
  refine SB.forT (n := 2) (rows := fun i => ([[.py (.list [.list (win (signsD one) q), .list (win (signsD other) q)]), IV 173 (hamA (.int q))], [.py (.list [.list (wordsD one), .list (wordsD other)]), IV 173 (hamA wb)]] : List (List D)).getD i []) (names := ["some", "plain"])
    (Inv := fun i ρ O => O = [] ∧ LE ρ xs one other q wb) (IXT.tup (rows := [[.py (.list [.list (win (signsD one) q), .list (win (signsD other) q)]), IV 173 (hamA (.int q))], [.py (.list [.list (wordsD one), .list (wordsD other)]), IV 173 (hamA wb)]]) ?_) (.cons (stoC rfl rfl rfl) (.cons (stoL rfl rfl) .nil)) ?_ ⟨rfl, E⟩ ?_ ?_
  · exact EX.tupDisp (.cons (EX.tupDisp (.cons (EX.name E.pieces) (.cons (EX.sub (EX.name E.parted) EX.int (GiX.lv (by decide) (by decide) rfl) PySem.F.slot_list_getitem.lookup) .nil)) (by simp))
      (.cons (EX.tupDisp (.cons (EX.name E.words) (.cons (EX.sub (EX.name E.split) EX.int (GiX.lv (by decide) (by decide) rfl) PySem.F.slot_list_getitem.lookup) .nil)) (by simp)) .nil)) (by simp)
  · intro i hi
    match i, hi with
    | 0, _ => rfl
    | 1, _ => rfl
  · rintro i ρ' O' W hi ⟨rfl, E'⟩
    match i, hi with
    | 0, _ =>
      exact b_body9 (X := win (signsD one) q) (Y := win (signsD other) q) (q := .int q) rfl rfl E'.one E'.other (ok_ham.pieces F.q2 F.q5 F.o1 F.o2 a1 a2 (by omega) (by omega)) (win_elt F.o1) (win_elt F.o2) win_nn win_nn (by omega) (by omega)
        ⟨[], rfl, rfl, E'.script, E'.one, E'.other, E'.size, E'.pieces, E'.words, E'.parted, E'.split, E'.whole⟩
    | 1, _ =>
      exact b_body9 (X := wordsD one) (Y := wordsD other) (q := wb) rfl rfl E'.one E'.other (ok_ham.words F.hh F.ht F.o1 F.o2 (by omega) (by omega)) (words_elt F.o1) (words_elt F.o2) words_nn words_nn (by omega) (by omega)
        ⟨[], rfl, rfl, E'.script, E'.one, E'.other, E'.size, E'.pieces, E'.words, E'.parted, E'.split, E'.whole⟩
  clear E
  rintro ρ' O' ⟨rfl, E⟩
  have P := win_fit (q := q) F.o1 F.o2 (by omega) (by omega)
  have Wd := words_fit F.o1 F.o2 (by omega) (by omega)
  refine SB.ifFalse (TR.conv (TR.or2 (b₁ := false) (b₂ := false)
    (TR.conv (TR.cmp (EX.dist ok_lev (EX.sub (EX.name E.parted) EX.int (GiX.lv (by decide) (by decide) rfl) PySem.F.slot_list_getitem.lookup) (EX.name E.one) (EX.name E.other) (ok_lev.pieces F.q2 F.q5 F.o1 F.o2 a1 a2 (by omega) (by omega)) hn)
      (EX.fn rfl (fun _ => by rfl) (.plain (.cons ?_ (.cons ?_ .nil))) (c_least (n := 0) P.ok (by omega) (by omega)) isFn_274 (by show 2 ≤ n + 6; omega)) CmX.ne_int) (by show (ansD _ _ (levD _ _) != leastD _ _) = false; rw [lev_least]; exact ne_self _))
    (fun _ => TR.conv (TR.cmp (EX.dist ok_lev (EX.sub (EX.name E.split) EX.int (GiX.lv (by decide) (by decide) rfl) PySem.F.slot_list_getitem.lookup) (EX.name E.one) (EX.name E.other) (ok_lev.words F.hh F.ht F.o1 F.o2 (by omega) (by omega)) hn)
      (EX.fn rfl (fun _ => by rfl) (.plain (.cons ?_ (.cons ?_ .nil))) (c_least (n := 0) Wd.ok (by omega) (by omega)) isFn_274 (by show 2 ≤ n + 6; omega)) CmX.ne_int) (by show (ansD _ _ (levD _ _) != leastD _ _) = false; rw [lev_least]; exact ne_self _))) rfl) (SB.skip ?_)
  · exact EX.sub (EX.name E.pieces) EX.int (GiX.list (by decide) (by decide) rfl) PySem.F.slot_list_getitem.lookup
  · exact EX.sub (EX.name E.pieces) EX.int (GiX.list (by decide) (by decide) rfl) PySem.F.slot_list_getitem.lookup
  · exact EX.sub (EX.name E.words) EX.int (GiX.list (by decide) (by decide) rfl) PySem.F.slot_list_getitem.lookup
  · exact EX.sub (EX.name E.words) EX.int (GiX.list (by decide) (by decide) rfl) PySem.F.slot_list_getitem.lookup
  refine SB.forT (n := 3) (rows := rowD [threeD (.int q), threeD wb, threeD (.int 1)]) (names := ["by_pieces", "by_words", "plain"]) (Inv := fun i ρ O => O = [] ∧ LE ρ xs one other q wb)
    (IXT.zip (EX.builtin rfl (fun _ => by rfl) rfl) (.plain (.cons (EX.name E.parted) (.cons (EX.name E.split) (.cons (EX.name E.whole) .nil)))) (.cons Itb.lv (.cons Itb.lv (.cons Itb.lv .nil))) (by simp) (by simp) ?_ ⟨threeD (.int q), List.mem_cons_self .., rfl⟩) (.cons (stoL rfl rfl) (.cons (stoL rfl rfl) (.cons (stoL rfl rfl) .nil))) ?_ ⟨rfl, E⟩ ?_ ?_
  · intro ds hds
    simp only [List.mem_cons, List.not_mem_nil, or_false] at hds
    rcases hds with rfl | rfl | rfl <;> exact Nat.le_refl 3
  · intro i hi; rfl
  · rintro i ρ' O' W hi ⟨rfl, E'⟩
    match i, hi with
    | 0, _ =>
      exact b_body11 ok_lev (q := q) (wb := wb) rfl rfl rfl E'.one E'.other E'.size E'.pieces E'.words F.q2 F.q5 F.hh F.ht F.o1 F.o2 l1 l2 ⟨[], rfl, rfl, E'.script, E'.one, E'.other, E'.size, E'.pieces, E'.words, E'.parted, E'.split, E'.whole⟩
    | 1, _ =>
      exact b_body11 ok_dam (q := q) (wb := wb) rfl rfl rfl E'.one E'.other E'.size E'.pieces E'.words F.q2 F.q5 F.hh F.ht F.o1 F.o2 l1 l2 ⟨[], rfl, rfl, E'.script, E'.one, E'.other, E'.size, E'.pieces, E'.words, E'.parted, E'.split, E'.whole⟩
    | 2, _ =>
      exact b_body11 ok_ham (q := q) (wb := wb) rfl rfl rfl E'.one E'.other E'.size E'.pieces E'.words F.q2 F.q5 F.hh F.ht F.o1 F.o2 l1 l2 ⟨[], rfl, rfl, E'.script, E'.one, E'.other, E'.size, E'.pieces, E'.words, E'.parted, E'.split, E'.whole⟩
  · rintro ρ' O' ⟨rfl, E'⟩
    exact b_tail E' F hx
end
end Mine
end

/-! ## C20 -/
section
set_option maxRecDepth 100000
namespace Mine

/-- what the script says -/
def oneD (xs : List Int) : Str := wordD xs 0 8 "ab " 6
def otherD (xs : List Int) : Str := wordD xs 9 8 "ab " 5
def sizeD (xs : List Int) : Nat := (2 + (atD xs 18 0).fmod 4).toNat
def wbD (xs : List Int) : PyData := ([.int 0, .none] : List PyData).getD ((atD xs 20 0).fmod 2).toNat .none
theorem ab3 : ("ab " : Str) = ⟨#[97, 98, 32]⟩ := by decide +kernel
theorem ab_len : ("ab " : Str).length = 3 := by decide +kernel
theorem wordD_mem (xs : List Int) (start other : Int) : ∀ k ∈ (wordD xs start 8 "ab " other).cps.toList, k = 97 ∨ k = 98 ∨ k = 32 := by
  intro k hk
  unfold wordD at hk
  simp only [List.toList_toArray, List.mem_map, List.mem_range] at hk
  obtain ⟨i, _, rfl⟩ := hk
  unfold chD
  have hmod := fmod_lt (a := atD xs (start + 1 + i) (other + (i : Int) * i)) (b := (("ab " : Str).length : Int)) (by rw [ab_len]; decide)
  generalize (atD xs (start + 1 + i) (other + (i : Int) * i)).fmod (("ab " : Str).length : Int) = m at hmod ⊢
  rw [ab_len] at hmod
  rw [ab3]
  have : m.toNat = 0 ∨ m.toNat = 1 ∨ m.toNat = 2 := by omega
  rcases this with h | h | h <;> rw [h] <;> simp
theorem wordD_len (xs : List Int) (start other : Int) : (wordD xs start 8 "ab " other).length ≤ 8 := by
  have h : 0 ≤ manyD xs start 8 other ∧ manyD xs start 8 other < 8 + 1 := fmod_lt (by decide)
  have : (wordD xs start 8 "ab " other).length = (manyD xs start 8 other).toNat := by simp [wordD, Str.length]
  omega
theorem lf (xs : List Int) : LF (oneD xs) (otherD xs) (sizeD xs) (wbD xs) := by
  have h4 := fmod_lt (a := atD xs 18 0) (b := 4) (by decide)
  have h2 := fmod_lt (a := atD xs 20 0) (b := 2) (by decide)
  have ok : ∀ start other, Ok32 (wordD xs start 8 "ab " other).cps.toList := fun s o k hk => by
    have := wordD_mem xs s o k hk
    omega
  have hw : wbD xs = .int 0 ∨ wbD xs = .none := by
    unfold wbD
    have : ((atD xs 20 0).fmod 2).toNat = 0 ∨ ((atD xs 20 0).fmod 2).toNat = 1 := by omega
    rcases this with h | h <;> rw [h]
    · exact .inl rfl
    · exact .inr rfl
  refine ⟨by unfold sizeD; omega, by unfold sizeD; omega, ?_, ?_, ok _ _, ok _ _, wordD_len _ _ _, wordD_len _ _ _, fun k hk => by have := wordD_mem xs _ _ k hk; omega⟩
  · rcases hw with h | h <;> rw [h]
    · exact .int
    · exact .none
  · rcases hw with h | h <;> rw [h]
    · exact TrX.int
    · exact TrX.none
theorem wb_rigid (xs : List Int) : Rigid (.py (wbD xs)) := by
  unfold wbD
  have h2 := fmod_lt (a := atD xs 20 0) (b := 2) (by decide)
  have : ((atD xs 20 0).fmod 2).toNat = 0 ∨ ((atD xs 20 0).fmod 2).toNat = 1 := by omega
  rcases this with h | h <;> rw [h]
  · exact Rigid.int
  · exact Rigid.none

section
variable {w : World} {n : Nat} {A : Around} {l : List Env} {s₀ : Shared} {hb₀ : Heap} {L : Addr} {ρ : Rho} {one other : Str} {xs : List Int} {q : Nat} {wb : PyData}
/-- words and the makers -/
theorem b_make (hs : ρ "script" = some (.py (.list (xs.map .int)))) (h1 : ρ "one" = some (.py (.str one))) (h2 : ρ "other" = some (.py (.str other))) (hq : ρ "size" = some (.py (.int q))) (hw : ρ "words_by" = some (.py wb))
    (hP : ρ "pieces" = some (.py (.list [.list (win (signsD one) q), .list (win (signsD other) q)]))) (F : LF one other q wb) (hr : Rigid (.py wb)) (hx : xs.length < 1000) : SB (LC w n A l s₀ hb₀ L) ρ [] (lawBody 5) (fun o => o = .ret (.py (.bool true))) := by
  have l1 := F.l1
  have l2 := F.l2
  have hn : 4 ≤ (LC w n A l s₀ hb₀ L).n := by show 4 ≤ n + 6; omega
  refine SB.assign (d := .py (.list [.list (wordsD one), .list (wordsD other)])) (EX.listDisp (xs := [.list (wordsD one), .list (wordsD other)]) (.cons (EX.strSplit (EX.name h1) (by omega)) (.cons (EX.strSplit (EX.name h2) (by omega)) .nil)) (by simp)) (stoL rfl rfl) ?_
  refine SB.assign (d := LV (threeD (.int q))) (EX.seqDisp (.cons (EX.mk rfl (fun _ => by rfl) (ArgX.kw2 (EX.name hq) EX.bool) (m_lev (n := 0) .int) (by show 2 ≤ n + 6; omega) (fun _ => by rfl)) (.cons (EX.mk rfl (fun _ => by rfl) (ArgX.kw2 (EX.name hq) EX.bool) (m_dam (n := 0) .int) (by show 2 ≤ n + 6; omega) (fun _ => by rfl)) (.cons (EX.mk rfl (fun _ => by rfl) (ArgX.kw2 (EX.name hq) EX.bool) (m_ham (n := 0) .int) (by show 2 ≤ n + 6; omega) (fun _ => by rfl)) .nil))) (by simp)) (stoL rfl rfl) ?_
  refine SB.assign (d := LV (threeD wb)) (EX.seqDisp (.cons (EX.mk rfl (fun _ => by rfl) (ArgX.kw2 (EX.name hw) EX.bool) (m_lev (n := 0) hr) (by show 2 ≤ n + 6; omega) (fun _ => by rfl)) (.cons (EX.mk rfl (fun _ => by rfl) (ArgX.kw2 (EX.name hw) EX.bool) (m_dam (n := 0) hr) (by show 2 ≤ n + 6; omega) (fun _ => by rfl)) (.cons (EX.mk rfl (fun _ => by rfl) (ArgX.kw2 (EX.name hw) EX.bool) (m_ham (n := 0) hr) (by show 2 ≤ n + 6; omega) (fun _ => by rfl)) .nil))) (by simp)) (stoL rfl rfl) ?_
  refine SB.assign (d := LV (threeD (.int 1))) (EX.seqDisp (.cons (EX.mk rfl (fun _ => by rfl) (ArgX.kw1 EX.bool) (m_lev1 (n := 0)) (by show 2 ≤ n + 6; omega) (fun _ => by rfl)) (.cons (EX.mk rfl (fun _ => by rfl) (ArgX.kw1 EX.bool) (m_dam1 (n := 0)) (by show 2 ≤ n + 6; omega) (fun _ => by rfl)) (.cons (EX.mk rfl (fun _ => by rfl) (ArgX.kw1 EX.bool) (m_ham1 (n := 0)) (by show 2 ≤ n + 6; omega) (fun _ => by rfl)) .nil))) (by simp)) (stoL rfl rfl) ?_
  exact b_mid (xs := xs) (one := one) (other := other) (q := q) (wb := wb) ⟨hs, h1, h2, hq, hP, rfl, rfl, rfl, rfl⟩ F hx

theorem win_one (x : Str) : ((List.range x.length).map fun i => PyData.tuple [(signsD x).getD i .none]) = win (signsD x) 1 := by
  unfold win
  rw [signsD_len, Nat.add_sub_cancel]
  apply List.map_congr_left
  intro i hi
  rw [List.mem_range] at hi
  rw [drop_one, if_pos (by rw [signsD_len]; exact hi)]
theorem win_slices (x : Str) (q : Nat) : ((List.range ((x.length : Int) - q + 1).toNat).map fun i => PyData.tuple (((signsD x).drop i).take q)) = win (signsD x) q := by
  unfold win
  rw [signsD_len]
  have e : ((x.length : Int) - q + 1).toNat = x.length + 1 - q := by omega
  rw [e]
theorem slice_signs (x : Str) (i q : Nat) (h : i + q ≤ x.length) : signsD (Txt.slice x (some (i : Int)) (some ((i : Int) + q))) = ((signsD x).drop i).take q := by
  have e : ((i : Int) + q) = ((i + q : Nat) : Int) := by omega
  unfold signsD
  rw [e, strSlice_mid x i (i + q) (by omega) h, show i + q - i = q by omega, List.map_take, List.map_drop]

/-- pieces, and what find_ngrams says of them -/
theorem b_pieces (hs : ρ "script" = some (.py (.list (xs.map .int)))) (h1 : ρ "one" = some (.py (.str one))) (h2 : ρ "other" = some (.py (.str other))) (hq : ρ "size" = some (.py (.int q))) (hw : ρ "words_by" = some (.py wb))
    (F : LF one other q wb) (hr : Rigid (.py wb)) (hx : xs.length < 1000) : SB (LC w n A l s₀ hb₀ L) ρ [] (lawBody 2) (fun o => o = .ret (.py (.bool true))) := by
  have l1 := F.l1
  have l2 := F.l2
  have q2 := F.q2
  have q5 := F.q5
  have a1 := ascii_ok F.o1
  have a2 := ascii_ok F.o2
  refine SB.assignComp ["size"] (ds := ([.str one, .str other] : List PyData).map D.py) (g := fun i => .list (win (signsD (pick2 one other i)) q)) (xs := [.list (win (signsD one) q), .list (win (signsD other) q)])
    (IX.tuple (EX.tupleDisp (xs := [.str one, .str other]) (.cons (EX.name h1) (.cons (EX.name h2) .nil)) (by simp))) (by simp) (fun C' s hb O i d hd => ?_) ⟨rfl, rfl⟩ rfl ?_
    (hvis := vis_cons (vis rfl rfl (fun _ => rfl) rfl) vis_nil) (hx := fun _ _ _ => stoC rfl rfl rfl)
  · obtain ⟨hi, rfl⟩ := two_items hd
    have hp : pick2 (PyData.str one) (PyData.str other) i = .str (pick2 one other i) := by
      match i with
      | 0 => rfl
      | _ + 1 => rfl
    have hl : (pick2 one other i).length ≤ 8 := by
      match i with
      | 0 => exact l1
      | _ + 1 => exact l2
    rw [hp]
    generalize pick2 one other i = t at hl ⊢
    refine EX.conv (FX.ex (FX.compRangeI ["size", "text"] (b := (t.length : Int) - q + 1) (g := fun i => .tuple (((signsD t).drop i).take q)) ?_ (by omega) (by omega) (fun C s hb O k hk => ?_) (hvis := vis_cons (vis rfl rfl (fun _ => rfl) rfl) (vis_cons (vis rfl rfl (fun _ => rfl) rfl) vis_nil)) (hx := fun _ _ _ => stoL rfl rfl))) (by rw [win_slices])
    · exact TX.callName (EX.builtin rfl (fun _ => by rfl) rfl) (.plain (.cons (EX.bin (EX.bin (EX.call1 (EX.builtin rfl (fun _ => by rfl) rfl) (EX.name (d := .py (.str t)) rfl) (FnC.len_str (by omega)) Keeps?.builtin) (EX.name hq) OpX.sub_int) EX.int OpX.add_int) .nil)) FnC.range1 (Nat.zero_le _) (fun _ _ g => g) Keeps?.type
    · rw [← slice_signs t k q (by omega)]
      have hsl := Txt.slice_le t (some (k : Int)) (some ((k : Int) + q))
      exact EX.call1 (EX.builtin rfl (fun _ => by rfl) rfl) (EX.slice_str (EX.name (d := .py (.str t)) rfl) (PX.some (EX.name rfl)) (PX.some (EX.bin (EX.name rfl) (EX.name hq) OpX.add_int)) (by rw [sizeLine_eq]; omega)) (FnC.tuple_str (by omega)) Keeps?.type
  have fg : ∀ {ρ : Rho} {O : List Own} {e₁ e₂ : Expr} {p₁ p₂ : Pos} {t : Str} {m : Nat}, EX (LC w n A l s₀ hb₀ L) ρ O e₁ (.py (.str t)) → EX (LC w n A l s₀ hb₀ L) ρ O e₂ (.py (.int m)) → t.cps.all (· < 128) = true → t.length ≤ 8 → 1 ≤ m → m ≤ 5 → (∀ env, starEach [e₁, e₂] env = (false, eval e₁ env) :: starEach [e₂] env) → (∀ env, starEach [e₂] env = (false, eval e₂ env) :: starEach [] env) →
      EX (LC w n A l s₀ hb₀ L) ρ O (.Call (.Name "find_ngrams" p₁) [e₁, e₂] [] p₂) (.py (.list (win (signsD t) m))) := fun he₁ he₂ ha hl hm hm' hs₁ hs₂ =>
    EX.fn rfl (fun _ => by rfl) (.plain (.cons he₁ (.cons he₂ .nil hs₂) hs₁)) (c_find_ngrams (k := 0) ha (by omega) hm hm') isFn_26 (by show 2 ≤ n + 6; omega)
  have e1 := win_elt (q := q) F.o1
  have e2 := win_elt (q := q) F.o2
  have sl := lists_shaped e1 e2
  refine SB.ifFalse (TR.conv (TR.or2 (b₁ := false) (b₂ := false)
    (TR.conv (TR.cmp (d₁ := .py (.list [.list (win (signsD one) q), .list (win (signsD other) q)])) (EX.listDisp (.cons (fg (EX.name h1) (EX.name hq) a1 l1 (by omega) q5 (fun _ => rfl) (fun _ => rfl)) (.cons (fg (EX.name h2) (EX.name hq) a2 l2 (by omega) q5 (fun _ => rfl) (fun _ => rfl)) .nil)) (by simp)) (EX.name rfl) (CmX.ne_data sl sl)) ?_)
    (fun _ => TR.conv (TR.cmp (d₁ := .py (.list (win (signsD one) q))) ?_ (EX.sub (EX.name (d := .py (.list [.list (win (signsD one) q), .list (win (signsD other) q)])) rfl) EX.int (GiX.list (by decide) (by decide) rfl) PySem.F.slot_list_getitem.lookup) (CmX.ne_data (elts_shaped e1) (elts_shaped e1))) ?_)) rfl) (SB.skip ?_)
  · rw [PySem.SeqAt.eqv_refl _ (PySem.SeqAt.canLay_of_shaped sl)]; rfl
  · exact EX.fn rfl (fun _ => by rfl) (.plain (.cons (EX.call1 (EX.builtin rfl (fun _ => by rfl) rfl) (EX.name h1) (FnC.list_str (by omega)) Keeps?.type) (.cons (EX.name hq) .nil))) (c_find_ngramsL (k := 0) (by rw [signsD_len]; omega) (by omega) q5) isFn_26 (by show 2 ≤ n + 6; omega)
  · rw [lists_self e1]; rfl
  have e3 := win_elt (q := 1) F.o1
  refine SB.ifFalse (TR.conv (TR.cmp (d₁ := .py (.list (win (signsD one) 1))) (d₂ := .py (.list (win (signsD one) 1))) (fg (m := 1) (EX.name h1) EX.int a1 l1 (by omega) (by omega) (fun _ => rfl) (fun _ => rfl)) ?_ (CmX.ne_data (elts_shaped e3) (elts_shaped e3))) ?_) (SB.skip ?_)
  · refine EX.conv (FX.ex (FX.compItems [] (ds := (signsD one).map .py) (g := fun i => .tuple [(signsD one).getD i .none]) ?_ (by rw [List.length_map, signsD_len]; omega) (fun C s hb O i d hd => ?_) (hvis := vis_nil) (hx := fun _ _ _ => stoL rfl rfl))) (by rw [List.length_map, signsD_len, win_one])
    · rw [List.length_map, signsD_len]
      exact IX.str (EX.name h1) a1
    · rw [List.getElem?_map] at hd
      obtain ⟨a, ha, rfl⟩ := Option.map_eq_some_iff.mp hd
      rw [List.getD_eq_getElem?_getD, ha]
      exact EX.tupleDisp (xs := [a]) (.cons (EX.name rfl) .nil) (by simp)
  · rw [lists_self e3]; rfl
  exact b_make hs h1 h2 hq hw rfl F hr hx
end
end Mine
end

/-! ## C21 -/
section
set_option maxRecDepth 100000
namespace Mine

theorem one_binds {w : World} {A : Around} {l : List Env} {s : Shared} {hb : Heap} {fd : FuncData} {a : Str} {d : D} {ar : Args} (B : Base w l hb s) (ha : VA hb ar [d] []) (h : ∀ v, bindArgs fd ⟨[v], []⟩ = pure [(a, v)]) (E : Value → Shared → Prop) :
    wpAny (MM w) A (bindArgs fd ar) (fun binds s₁ => ∃ hb₁, Ext l s hb s₁ hb₁ ∧ KL hb₁ binds [(a, d)]) E s := by
  obtain ⟨v, rfl, h1⟩ := ha.one
  exact wpAny_of_eq (h v) ⟨hb, .refl B, .cons h1 .nil⟩
section
variable {w : World} {n : Nat} {A : Around} {l : List Env} {s₀ : Shared} {hb₀ : Heap} {L : Addr} {xs : List Int}
theorem b_law (hx : xs.length < 1000) : SB (LC w n A l s₀ hb₀ L) (rho [("script", .py (.list (xs.map .int)))] ρ0) [] (dBody d_law) (fun o => o = .ret (.py (.bool true))) := by
  have h4 := fmod_lt (a := atD xs 18 0) (b := 4) (by decide)
  have h2 := fmod_lt (a := atD xs 20 0) (b := 2) (by decide)
  have hab : 0 < ("ab " : Str).length ∧ ("ab " : Str).length < 1000 := by rw [ab_len]; decide
  refine SB.assign2 (T := "tuple") (d₁ := .py (.str (oneD xs))) (d₂ := .py (.str (otherD xs))) (.inr rfl) (EX.tupDisp (.cons ?_ (.cons ?_ .nil)) (by simp)) (stoC rfl rfl rfl) (stoL rfl rfl) ?_
  · exact EX.fn rfl (fun _ => by rfl) (.plain (.cons (EX.name rfl) (.cons EX.int (.cons EX.int (.cons EX.str (.cons EX.int .nil)))))) (c_law_word (n := 0) (by decide) (by decide) hx (by decide) (by decide) hab.1 hab.2) isFn_269 (by show 2 ≤ n + 6; omega)
  · exact EX.fn rfl (fun _ => by rfl) (.plain (.cons (EX.name rfl) (.cons EX.int (.cons EX.int (.cons EX.str (.cons EX.int .nil)))))) (c_law_word (n := 0) (by decide) (by decide) hx (by decide) (by decide) hab.1 hab.2) isFn_269 (by show 2 ≤ n + 6; omega)
  refine SB.assign2 (T := "tuple") (d₁ := .py (.int (sizeD xs))) (d₂ := .py (wbD xs)) (.inr rfl) (EX.tupDisp (.cons ?_ (.cons ?_ .nil)) (by simp)) (stoC rfl rfl rfl) (stoL rfl rfl) ?_
  · have e : ((sizeD xs : Nat) : Int) = 2 + (atD xs 18 0).fmod 4 := by unfold sizeD; omega
    rw [e]
    exact EX.bin EX.int (EX.bin (EX.fn rfl (fun _ => by rfl) (.plain (.cons (EX.name rfl) (.cons EX.int (.cons EX.int .nil)))) (c_law_at (n := 0) (by decide) hx) isFn_264 (by show 1 ≤ n + 6; omega)) EX.int (OpX.mod_int (by decide))) OpX.add_int
  · refine EX.sub (EX.listDisp (xs := [.int 0, .none]) (.cons EX.int (.cons EX.noneX .nil)) (by simp)) (EX.bin (EX.fn rfl (fun _ => by rfl) (.plain (.cons (EX.name rfl) (.cons EX.int (.cons EX.int .nil)))) (c_law_at (n := 0) (by decide) hx) isFn_264 (by show 1 ≤ n + 6; omega)) EX.int (OpX.mod_int (by decide))) (GiX.list (by omega) (by omega) ?_) PySem.F.slot_list_getitem.lookup
    unfold wbD
    have : ((atD xs 20 0).fmod 2).toNat = 0 ∨ ((atD xs 20 0).fmod 2).toNat = 1 := by omega
    rcases this with h | h <;> rw [h] <;> rfl
  exact b_pieces rfl rfl rfl rfl rfl (lf xs) (wb_rigid xs) hx
end
/-- the law gives True -/
theorem c_law {w : World} {n : Nat} {xs : List Int} (hx : xs.length < 1000) : CoC w (.ref 279) (n + 7) (Gd w) [.py (.list (xs.map .int))] [] (fun h v => V h v (.py (.bool true))) := by
  refine CoC.def isFn_279 (fun _ h => h) (fun _ _ k g => g.up k) (bs := [("script", .py (.list (xs.map .int)))]) (K := fun o => o = .ret (.py (.bool true))) ?_ ?_ (fun A l s₀ hb₀ L => b_law hx) ?_
  · intro y hy
    simp only [List.mem_cons, List.not_mem_nil, or_false] at hy
    rcases hy with rfl
    exact .inl (by rfl)
  · exact fun A l s hb B hP a ha E => one_binds B ha (fun _ => by rfl) E
  · rintro o rfl
    exact .inl ⟨_, rfl, fun h v x => x⟩
end Mine
end

/-! ## J1 -/
section
set_option maxRecDepth 100000
namespace Mine

theorem readsAll_ints {h h' : Heap} : ∀ {xs : List Int} {vs : List Value} {as : List Addr}, ReadsAll h vs (xs.map .int) as → ReadsAll h' vs (xs.map .int) as
  | [], _, _, r => by cases r; exact .nil
  | x :: xs, _, _, r => by
    cases r with
    | cons r1 r2 =>
      cases r1 with
      | int i t => exact .cons (.int _ _) (readsAll_ints r2)
theorem reads_ints {h h' : Heap} {a : Addr} {xs : List Int} {as : List Addr} (k : ∀ o, o.cls ≠ .none → h.get? a = some o → h'.get? a = some o) (r : Reads h (.ref a) (.list (xs.map .int)) as) : Reads h' (.ref a) (.list (xs.map .int)) as := by
  cases r with
  | list h1 h2 h3 h4 => exact .list (k _ (by rw [h2]; exact fun e => nomatch e) h1) h2 h3 (readsAll_ints h4)

theorem only_le {p : Addr → Prop} {h : Heap} : Le (only p h) h := fun _ _ e => (only_get.mp e).2
theorem ns_only {p : Addr → Prop} {h : Heap} {a : Addr} {m : Str → Option Value} (n : h.Ns a m) (k : p a) : (only p h).Ns a m := by
  obtain ⟨o, es, ep, e, r⟩ := n
  exact ⟨o, es, ep, only_get.mpr ⟨k, e⟩, r⟩

theorem lookup_filter {p : Addr} {a : Addr} {o : Obj} : ∀ {K : Frag}, (K.filter fun q => q.1 != p).lookup a = some o → K.lookup a = some o ∧ a ≠ p
  | [], h => by simp at h
  | (b, x) :: K, h => by
    by_cases hb : b = p
    · subst hb
      simp only [List.filter, bne_self_eq_false] at h
      obtain ⟨h1, h2⟩ := lookup_filter h
      have : (a == b) = false := by simpa using h2
      exact ⟨by rw [List.lookup, this]; exact h1, h2⟩
    · have hb' : (b != p) = true := by simpa using hb
      simp only [List.filter, hb'] at h
      by_cases ha : a = b
      · subst ha
        rw [List.lookup, beq_self_eq_true] at h
        exact ⟨by rw [List.lookup, beq_self_eq_true]; exact h, hb⟩
      · have ha' : (a == b) = false := by simpa using ha
        rw [List.lookup, ha'] at h
        obtain ⟨h1, h2⟩ := lookup_filter h
        exact ⟨by rw [List.lookup, ha']; exact h1, h2⟩

theorem j_gd {w : World} {h : Heap} {mg mb : Str → Option Value} {bm : Addr} {ob : Obj} (KX : (KK w.params).In h) (hb : h.Ns builtinsNs mb) (hbi : ∀ x : Str, x ≠ "__name__" → mb x = bootBuiltins x) (hl : h.NoLimit)
    (M : BMod h mainGlobals mg bm ob) : Gd w (only (· ≠ PH) h) where
  frag := by
    intro a o e
    obtain ⟨h1, h2⟩ := lookup_filter e
    exact only_get.mpr ⟨h2, KX a o h1⟩
  bi := ⟨mb, ns_only hb (by decide), hbi⟩
  lim := by
    obtain ⟨m, a, b⟩ := hl
    exact ⟨m, ns_only a (by decide), b⟩
  mg := ⟨mg, ns_only M.ns (by decide)⟩
  bm := ⟨mg, bm, ob, ns_only M.ns (by decide), M.name, M.ne, only_get.mpr ⟨by
    rintro rfl
    have e := KX 167 (o_167 w.params) (by rfl)
    have e' : h.get? 167 = some ob := M.obj
    rw [e'] at e
    cases e
    exact (nomatch M.cls), M.obj⟩, M.cls, M.dict, M.data⟩
theorem j_tab {w : World} {h : Heap} (KX : (KK w.params).In h) : Tab h := by
  have e1 : h.get? 167 = some (o_167 w.params) := KX 167 (o_167 w.params) (by rfl)
  have e2 : h.get? 169 = some (o_169 w.params) := KX 169 (o_169 w.params) (by rfl)
  refine ⟨#[], ⟨_, _, _, _, _, _, _, _, _, _, e2, rfl, rfl, rfl, rfl, rfl, rfl, e1, rfl, ?_, by decide⟩, ⟨⟨_, _, e2, rfl, rfl, rfl⟩, e1⟩, .inl rfl⟩
  first | trivial | exact .nil | simp [TriplesOk]
theorem j_base {w : World} {s : Shared} {mg mb : Str → Option Value} {bm : Addr} {ob : Obj} (KX : (KK w.params).In s.heap) (hb : s.heap.Ns builtinsNs mb) (hbi : ∀ x : Str, x ≠ "__name__" → mb x = bootBuiltins x) (hl : s.heap.NoLimit)
    (M : BMod s.heap mainGlobals mg bm ob) : Base w [] (only (· ≠ PH) s.heap) s where
  le := only_le
  ph := only_none fun h => h rfl
  fr := fun _ h => nomatch h
  gd := j_gd KX hb hbi hl M
  tab := j_tab KX
  fk := fun _ h => nomatch h
theorem j_room : Room 7 callerA [] := ⟨rfl, rfl, by decide, by decide⟩
theorem j_old {s s' : Shared} (K : Kp [] s s') (T : Tab s.heap) (h0 : s.heap.get? PH = some { cls := .none, data := .fields #[] }) : OldK s.heap s'.heap := by
  obtain ⟨ps, _, t, _⟩ := K.tab T
  obtain ⟨ps0, _, t0, _⟩ := T
  refine ⟨fun b o e => ?_, fun b o e => ?_⟩
  · by_cases hb : b = PH
    · subst hb
      rw [h0] at e; cases e
      exact .inr (.inl ⟨t0.isCodeTable, rfl, #[], ps, rfl, by rw [t.2, Array.empty_append]⟩)
    · exact .inl (K.keep b o hb (fun h => nomatch h) e)
  · by_cases hb : b = PH
    · subst hb; exact ⟨_, t.2⟩
    · exact ⟨o, K.keep b o hb (fun h => nomatch h) e⟩

theorem v_true {h : Heap} {v : Value} (x : V h v (.py (.bool true))) : v = .bool true := by
  obtain ⟨as, r⟩ := x
  cases r; rfl

/-- the call of the law, from the head's facts -/
theorem j_call {w : World} {s : Shared} {mg mb : Str → Option Value} {bm : Addr} {ob : Obj} {a : Addr} {as : List Addr} {xs : List Int} (hx : xs.length < 1000) (hg : s.gens = #[]) (KX : (KK w.params).In s.heap) (hb : s.heap.Ns builtinsNs mb)
    (hbi : ∀ x : Str, x ≠ "__name__" → mb x = bootBuiltins x) (hl : s.heap.NoLimit) (M : BMod s.heap mainGlobals mg bm ob) (r : Reads s.heap (.ref a) (.list (xs.map .int)) as) {Q E : Value → Shared → Prop}
    (fin : ∀ s', OldK s.heap s'.heap → s'.os = s.os → AllBare s'.gens → Q (.bool true) s') : wpAny (MM w) callerA (call (.ref 279) [.ref a]) Q E s := by
  have B := j_base KX hb hbi hl M
  have e0 : s.heap.get? 167 = some (o_167 w.params) := KX 167 (o_167 w.params) (by rfl)
  refine wpAny_call (codeAny_mono (c_law (n := 0) hx callerA [] s _ j_room B B.gd ⟨[.ref a], []⟩ ?_) ?_)
  · have r' : Reads (only (· ≠ PH) s.heap) (.ref a) (.list (xs.map .int)) as := reads_ints (fun o hc e => only_get.mpr ⟨by
      rintro rfl
      have e' : s.heap.get? 167 = some o := e
      rw [e0] at e'; cases e'; exact hc rfl, e⟩) r
    exact VA.mk (.cons ⟨_, r'⟩ .nil) (by first | exact .nil | rfl | trivial)
  · rintro _ s' ⟨v, hb', rfl, x, y⟩
    obtain rfl := v_true y
    exact fin s' (j_old x.kp B.tab e0) x.kp.os (x.kp.bare.bare (.of_eq hg))
end Mine
end

set_option maxRecDepth 100000 in
set_option maxHeartbeats 8000000 in
theorem PySem.Challenge.cw_eu0042_01_holds : PySem.Challenge.rw_eu0042_01.Holds := by
  w_on; o_law; o_head (kHook Mine.KK Mine.KA (fun _ => by kernel_rfl)); (case hw => w_witness2)
  intro w s₀ s₁ mg mb G Y fa o pm cd doc dV kV ho hd hcd hD hmg hg args vals as hpre hlay hrd hwl hlo
  have KX := kIn_of Y
  refine Ground.open G ?_
  intro T B D TE TW
  obtain ⟨bm, ob, M⟩ := bmod_of_top T
  have hlaw : mg (PySem.Str.ofString "law") = some (.ref 279) := mg_of KX T.g (by rfl)
  have hfa : fa = 279 := by
    have e : some (Value.ref fa) = some (.ref 279) := hmg.symm.trans hlaw
    cases e; rfl
  clear hmg
  subst hfa
  wrow_args hpre hlay hrd hwl hlo
  refine Mine.j_call ?_ hg KX T.b T.builtins T.nolimit M (by assumption) ?_
  · omega
  · intro s' hk hos hb
    exact ⟨.inl ⟨_, _, _, rfl, fun _ => rfl, .bool true, (by wrow_post), fun _ => ⟨.nil, fun _ h => nomatch h⟩⟩, hk, hos, hb⟩
