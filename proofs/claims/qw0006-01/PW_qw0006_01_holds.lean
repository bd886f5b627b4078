import PyProof.Rows.All
import Wide.All
import OpenK.AllK
import Wide.FinOn
import PySem.Challenge.RW_qw0006_01
open PySem PySem.W PyProof.Rows PySem.Calls PyProof.V PySem.Spec
set_option Elab.async false
set_option maxRecDepth 100000
set_option maxHeartbeats 8000000
set_option linter.unusedSectionVars false
set_option linter.unusedVariables false
namespace Mine
section
noncomputable def cell (i : Nat) : Stmt := (PySem.Challenge.pw_qw0006_01.main.body.drop i).headD (Stmt.Pass default)
noncomputable def hd.heap_39 : Params → Frag :=
  letI a0 : Arguments := _
  letI b0 : List Stmt := _
  letI s0 : Scope := _
  haveI : cell 0 = Stmt.FunctionDef _ a0 b0 _ _ _ s0 _ _ _ := rfl
  letI a5 : Arguments := _
  letI b5 : List Stmt := _
  letI s5 : Scope := _
  haveI : cell 5 = Stmt.FunctionDef _ a5 b5 _ _ _ s5 _ _ _ := rfl
  letI a6 : Arguments := _
  letI b6 : List Stmt := _
  letI s6 : Scope := _
  haveI : cell 6 = Stmt.FunctionDef _ a6 b6 _ _ _ s6 _ _ _ := rfl
  letI a9 : Arguments := _
  letI b9 : List Stmt := _
  letI s9 : Scope := _
  haveI : cell 9 = Stmt.FunctionDef _ a9 b9 _ _ _ s9 _ _ _ := rfl
  letI a12 : Arguments := _
  letI b12 : List Stmt := _
  letI s12 : Scope := _
  haveI : cell 12 = Stmt.FunctionDef _ a12 b12 _ _ _ s12 _ _ _ := rfl
  letI a13 : Arguments := _
  letI b13 : List Stmt := _
  letI s13 : Scope := _
  haveI : cell 13 = Stmt.FunctionDef _ a13 b13 _ _ _ s13 _ _ _ := rfl
  letI a14 : Arguments := _
  letI b14 : List Stmt := _
  letI s14 : Scope := _
  haveI : cell 14 = Stmt.FunctionDef _ a14 b14 _ _ _ s14 _ _ _ := rfl
  letI a16 : Arguments := _
  letI b16 : List Stmt := _
  letI s16 : Scope := _
  haveI : cell 16 = Stmt.FunctionDef _ a16 b16 _ _ _ s16 _ _ _ := rfl
  letI a17 : Arguments := _
  letI b17 : List Stmt := _
  letI s17 : Scope := _
  haveI : cell 17 = Stmt.FunctionDef _ a17 b17 _ _ _ s17 _ _ _ := rfl
  letI a18 : Arguments := _
  letI b18 : List Stmt := _
  letI s18 : Scope := _
  haveI : cell 18 = Stmt.FunctionDef _ a18 b18 _ _ _ s18 _ _ _ := rfl
  letI a20 : Arguments := _
  letI b20 : List Stmt := _
  letI s20 : Scope := _
  haveI : cell 20 = Stmt.FunctionDef _ a20 b20 _ _ _ s20 _ _ _ := rfl
  letI a21 : Arguments := _
  letI b21 : List Stmt := _
  letI s21 : Scope := _
  haveI : cell 21 = Stmt.FunctionDef _ a21 b21 _ _ _ s21 _ _ _ := rfl
  letI a23 : Arguments := _
  letI b23 : List Stmt := _
  letI s23 : Scope := _
  haveI : cell 23 = Stmt.FunctionDef _ a23 b23 _ _ _ s23 _ _ _ := rfl
  letI a25 : Arguments := _
  letI b25 : List Stmt := _
  letI s25 : Scope := _
  haveI : cell 25 = Stmt.FunctionDef _ a25 b25 _ _ _ s25 _ _ _ := rfl
  letI a26 : Arguments := _
  letI b26 : List Stmt := _
  letI s26 : Scope := _
  haveI : cell 26 = Stmt.FunctionDef _ a26 b26 _ _ _ s26 _ _ _ := rfl
  letI a27 : Arguments := _
  letI b27 : List Stmt := _
  letI s27 : Scope := _
  haveI : cell 27 = Stmt.FunctionDef _ a27 b27 _ _ _ s27 _ _ _ := rfl
  letI a28 : Arguments := _
  letI b28 : List Stmt := _
  letI s28 : Scope := _
  haveI : cell 28 = Stmt.FunctionDef _ a28 b28 _ _ _ s28 _ _ _ := rfl
  letI a29 : Arguments := _
  letI b29 : List Stmt := _
  letI s29 : Scope := _
  haveI : cell 29 = Stmt.FunctionDef _ a29 b29 _ _ _ s29 _ _ _ := rfl
  (fun P => (((nat_lit 2), (Obj.mk Value.none none (Data.dict (List.toArray []) 0) (List.toArray []))) :: (((nat_lit 3), (Obj.mk (Value.type "dict") none (Data.dict (List.toArray ((DictEntry.mk (PyData.keyHash P (Str.ofString "__name__")) (Value.str (Str.ofString "__name__") 165) (Value.str (Str.ofString "law_qw0006_01") 355)) :: ((DictEntry.mk (PyData.keyHash P (Str.ofString "__doc__")) (Value.str (Str.ofString "__doc__") 166) Value.none) :: ((DictEntry.mk (PyData.keyHash P (Str.ofString "__package__")) (Value.str (Str.ofString "__package__") 167) Value.none) :: [(DictEntry.mk (PyData.keyHash P (Str.ofString "__loader__")) (Value.str (Str.ofString "__loader__") 168) (Value.builtin "__main__.__loader__#opaque")), (DictEntry.mk (PyData.keyHash P (Str.ofString "__spec__")) (Value.str (Str.ofString "__spec__") 169) Value.none), (DictEntry.mk (PyData.keyHash P (Str.ofString "__annotations__")) (Value.str (Str.ofString "__annotations__") 170) (Value.ref 6)), (DictEntry.mk (PyData.keyHash P (Str.ofString "__builtins__")) (Value.str (Str.ofString "__builtins__") 171) (Value.ref 4)), (DictEntry.mk (PyData.keyHash P (Str.ofString "__file__")) (Value.str (Str.ofString "__file__") 173) (Value.str (Str.ofString "/claim/cut.py") 172)), (DictEntry.mk (PyData.keyHash P (Str.ofString "__cached__")) (Value.str (Str.ofString "__cached__") 174) Value.none), (DictEntry.mk (PyData.keyHash P (Str.ofString "_wall")) (Value.str (Str.ofString "_wall") 193) (Value.ref 21)), (DictEntry.mk (PyData.keyHash P (Str.ofString "_MAX_STRING_SIZE")) (Value.str (Str.ofString "_MAX_STRING_SIZE") 197) (Value.int (@OfNat.ofNat Int (nat_lit 40) (@instOfNat (nat_lit 40))) 196)), (DictEntry.mk (PyData.keyHash P (Str.ofString "_MOVE_COST")) (Value.str (Str.ofString "_MOVE_COST") 199) (Value.int (@OfNat.ofNat Int (nat_lit 2) (@instOfNat (nat_lit 2))) 198)), (DictEntry.mk (PyData.keyHash P (Str.ofString "_CASE_COST")) (Value.str (Str.ofString "_CASE_COST") 201) (Value.int (@OfNat.ofNat Int (nat_lit 1) (@instOfNat (nat_lit 1))) 200)), (DictEntry.mk (PyData.keyHash P (Str.ofString "_substitution_cost")) (Value.str (Str.ofString "_substitution_cost") 209) (Value.ref 28)), (DictEntry.mk (PyData.keyHash P (Str.ofString "_levenshtein_distance")) (Value.str (Str.ofString "_levenshtein_distance") 229) (Value.ref 35)), (DictEntry.mk (PyData.keyHash P (Str.ofString "bytes_types")) (Value.str (Str.ofString "bytes_types") 232) (Value.ref 36)), (DictEntry.mk (PyData.keyHash P (Str.ofString "_bytes_from_decode_data")) (Value.str (Str.ofString "_bytes_from_decode_data") 239) (Value.ref 43)), (DictEntry.mk (PyData.keyHash P (Str.ofString "Error")) (Value.str (Str.ofString "Error") 259) (Value.ref 53)), (DictEntry.mk (PyData.keyHash P (Str.ofString "_ascii_buffer")) (Value.str (Str.ofString "_ascii_buffer") 267) (Value.ref 63)), (DictEntry.mk (PyData.keyHash P (Str.ofString "_buffer")) (Value.str (Str.ofString "_buffer") 275) (Value.ref 70)), (DictEntry.mk (PyData.keyHash P (Str.ofString "_truth")) (Value.str (Str.ofString "_truth") 283) (Value.ref 77)), (DictEntry.mk (PyData.keyHash P (Str.ofString "_B64")) (Value.str (Str.ofString "_B64") 285) (Value.bytes (List.toArray ((@OfNat.ofNat UInt8 (nat_lit 65) (@UInt8.instOfNat (nat_lit 65))) :: ((@OfNat.ofNat UInt8 (nat_lit 66) (@UInt8.instOfNat (nat_lit 66))) :: ((@OfNat.ofNat UInt8 (nat_lit 67) (@UInt8.instOfNat (nat_lit 67))) :: ((@OfNat.ofNat UInt8 (nat_lit 68) (@UInt8.instOfNat (nat_lit 68))) :: ((@OfNat.ofNat UInt8 (nat_lit 69) (@UInt8.instOfNat (nat_lit 69))) :: ((@OfNat.ofNat UInt8 (nat_lit 70) (@UInt8.instOfNat (nat_lit 70))) :: ((@OfNat.ofNat UInt8 (nat_lit 71) (@UInt8.instOfNat (nat_lit 71))) :: ((@OfNat.ofNat UInt8 (nat_lit 72) (@UInt8.instOfNat (nat_lit 72))) :: ((@OfNat.ofNat UInt8 (nat_lit 73) (@UInt8.instOfNat (nat_lit 73))) :: ((@OfNat.ofNat UInt8 (nat_lit 74) (@UInt8.instOfNat (nat_lit 74))) :: ((@OfNat.ofNat UInt8 (nat_lit 75) (@UInt8.instOfNat (nat_lit 75))) :: ((@OfNat.ofNat UInt8 (nat_lit 76) (@UInt8.instOfNat (nat_lit 76))) :: ((@OfNat.ofNat UInt8 (nat_lit 77) (@UInt8.instOfNat (nat_lit 77))) :: ((@OfNat.ofNat UInt8 (nat_lit 78) (@UInt8.instOfNat (nat_lit 78))) :: ((@OfNat.ofNat UInt8 (nat_lit 79) (@UInt8.instOfNat (nat_lit 79))) :: ((@OfNat.ofNat UInt8 (nat_lit 80) (@UInt8.instOfNat (nat_lit 80))) :: ((@OfNat.ofNat UInt8 (nat_lit 81) (@UInt8.instOfNat (nat_lit 81))) :: ((@OfNat.ofNat UInt8 (nat_lit 82) (@UInt8.instOfNat (nat_lit 82))) :: ((@OfNat.ofNat UInt8 (nat_lit 83) (@UInt8.instOfNat (nat_lit 83))) :: ((@OfNat.ofNat UInt8 (nat_lit 84) (@UInt8.instOfNat (nat_lit 84))) :: ((@OfNat.ofNat UInt8 (nat_lit 85) (@UInt8.instOfNat (nat_lit 85))) :: ((@OfNat.ofNat UInt8 (nat_lit 86) (@UInt8.instOfNat (nat_lit 86))) :: ((@OfNat.ofNat UInt8 (nat_lit 87) (@UInt8.instOfNat (nat_lit 87))) :: ((@OfNat.ofNat UInt8 (nat_lit 88) (@UInt8.instOfNat (nat_lit 88))) :: ((@OfNat.ofNat UInt8 (nat_lit 89) (@UInt8.instOfNat (nat_lit 89))) :: ((@OfNat.ofNat UInt8 (nat_lit 90) (@UInt8.instOfNat (nat_lit 90))) :: ((@OfNat.ofNat UInt8 (nat_lit 97) (@UInt8.instOfNat (nat_lit 97))) :: ((@OfNat.ofNat UInt8 (nat_lit 98) (@UInt8.instOfNat (nat_lit 98))) :: ((@OfNat.ofNat UInt8 (nat_lit 99) (@UInt8.instOfNat (nat_lit 99))) :: ((@OfNat.ofNat UInt8 (nat_lit 100) (@UInt8.instOfNat (nat_lit 100))) :: ((@OfNat.ofNat UInt8 (nat_lit 101) (@UInt8.instOfNat (nat_lit 101))) :: ((@OfNat.ofNat UInt8 (nat_lit 102) (@UInt8.instOfNat (nat_lit 102))) :: ((@OfNat.ofNat UInt8 (nat_lit 103) (@UInt8.instOfNat (nat_lit 103))) :: ((@OfNat.ofNat UInt8 (nat_lit 104) (@UInt8.instOfNat (nat_lit 104))) :: [(@OfNat.ofNat UInt8 (nat_lit 105) (@UInt8.instOfNat (nat_lit 105))), (@OfNat.ofNat UInt8 (nat_lit 106) (@UInt8.instOfNat (nat_lit 106))), (@OfNat.ofNat UInt8 (nat_lit 107) (@UInt8.instOfNat (nat_lit 107))), (@OfNat.ofNat UInt8 (nat_lit 108) (@UInt8.instOfNat (nat_lit 108))), (@OfNat.ofNat UInt8 (nat_lit 109) (@UInt8.instOfNat (nat_lit 109))), (@OfNat.ofNat UInt8 (nat_lit 110) (@UInt8.instOfNat (nat_lit 110))), (@OfNat.ofNat UInt8 (nat_lit 111) (@UInt8.instOfNat (nat_lit 111))), (@OfNat.ofNat UInt8 (nat_lit 112) (@UInt8.instOfNat (nat_lit 112))), (@OfNat.ofNat UInt8 (nat_lit 113) (@UInt8.instOfNat (nat_lit 113))), (@OfNat.ofNat UInt8 (nat_lit 114) (@UInt8.instOfNat (nat_lit 114))), (@OfNat.ofNat UInt8 (nat_lit 115) (@UInt8.instOfNat (nat_lit 115))), (@OfNat.ofNat UInt8 (nat_lit 116) (@UInt8.instOfNat (nat_lit 116))), (@OfNat.ofNat UInt8 (nat_lit 117) (@UInt8.instOfNat (nat_lit 117))), (@OfNat.ofNat UInt8 (nat_lit 118) (@UInt8.instOfNat (nat_lit 118))), (@OfNat.ofNat UInt8 (nat_lit 119) (@UInt8.instOfNat (nat_lit 119))), (@OfNat.ofNat UInt8 (nat_lit 120) (@UInt8.instOfNat (nat_lit 120))), (@OfNat.ofNat UInt8 (nat_lit 121) (@UInt8.instOfNat (nat_lit 121))), (@OfNat.ofNat UInt8 (nat_lit 122) (@UInt8.instOfNat (nat_lit 122))), (@OfNat.ofNat UInt8 (nat_lit 48) (@UInt8.instOfNat (nat_lit 48))), (@OfNat.ofNat UInt8 (nat_lit 49) (@UInt8.instOfNat (nat_lit 49))), (@OfNat.ofNat UInt8 (nat_lit 50) (@UInt8.instOfNat (nat_lit 50))), (@OfNat.ofNat UInt8 (nat_lit 51) (@UInt8.instOfNat (nat_lit 51))), (@OfNat.ofNat UInt8 (nat_lit 52) (@UInt8.instOfNat (nat_lit 52))), (@OfNat.ofNat UInt8 (nat_lit 53) (@UInt8.instOfNat (nat_lit 53))), (@OfNat.ofNat UInt8 (nat_lit 54) (@UInt8.instOfNat (nat_lit 54))), (@OfNat.ofNat UInt8 (nat_lit 55) (@UInt8.instOfNat (nat_lit 55))), (@OfNat.ofNat UInt8 (nat_lit 56) (@UInt8.instOfNat (nat_lit 56))), (@OfNat.ofNat UInt8 (nat_lit 57) (@UInt8.instOfNat (nat_lit 57))), (@OfNat.ofNat UInt8 (nat_lit 43) (@UInt8.instOfNat (nat_lit 43))), (@OfNat.ofNat UInt8 (nat_lit 47) (@UInt8.instOfNat (nat_lit 47)))]))))))))))))))))))))))))))))))))))) 284)), (DictEntry.mk (PyData.keyHash P (Str.ofString "_b64_value")) (Value.str (Str.ofString "_b64_value") 292) (Value.ref 84)), (DictEntry.mk (PyData.keyHash P (Str.ofString "a2b_base64")) (Value.str (Str.ofString "a2b_base64") 308) (Value.ref 92)), (DictEntry.mk (PyData.keyHash P (Str.ofString "b2a_base64")) (Value.str (Str.ofString "b2a_base64") 322) (Value.ref 100)), (DictEntry.mk (PyData.keyHash P (Str.ofString "b64encode")) (Value.str (Str.ofString "b64encode") 333) (Value.ref 108)), (DictEntry.mk (PyData.keyHash P (Str.ofString "b64decode")) (Value.str (Str.ofString "b64decode") 342) (Value.ref 116)), (DictEntry.mk (PyData.keyHash P (Str.ofString "unorderable_list_difference")) (Value.str (Str.ofString "unorderable_list_difference") 354) (Value.ref 123)), (DictEntry.mk (PyData.keyHash P (Str.ofString "_law_text")) (Value.str (Str.ofString "_law_text") 362) (Value.ref 128)), (DictEntry.mk (PyData.keyHash P (Str.ofString "_law_octets")) (Value.str (Str.ofString "_law_octets") 370) (Value.ref 135)), (DictEntry.mk (PyData.keyHash P (Str.ofString "_law_far")) (Value.str (Str.ofString "_law_far") 380) (Value.ref 142)), (DictEntry.mk (PyData.keyHash P (Str.ofString "_law_piece")) (Value.str (Str.ofString "_law_piece") 390) (Value.ref 149)), (DictEntry.mk (PyData.keyHash P (Str.ofString "law")) (Value.str (Str.ofString "law") 396) (Value.ref 154))])))) 33) (List.toArray []))) :: (((nat_lit 15), (Obj.mk (Value.type "tuple") none (Data.seq (List.toArray []) 0) (List.toArray []))) :: (((nat_lit 17), (Obj.mk (Value.type "tuple") none (Data.seq (List.toArray [(Value.str (Str.ofString "k") 190)]) 0) (List.toArray []))) :: (((nat_lit 18), (Obj.mk (Value.type "tuple") none (Data.seq (List.toArray []) 0) (List.toArray []))) :: (((nat_lit 20), (Obj.mk (Value.type "code") none (Data.fields (List.toArray [(Value.str (Str.ofString "_wall") 187), (Value.str (Str.ofString "_wall") 188), (Value.str (Str.ofString "/claim/cut.py") 189), (Value.int (@OfNat.ofNat Int (nat_lit 1) (@instOfNat (nat_lit 1))) 0), (Value.int (@OfNat.ofNat Int (nat_lit 1) (@instOfNat (nat_lit 1))) 0), (Value.int (@OfNat.ofNat Int (nat_lit 0) (@instOfNat (nat_lit 0))) 0), (Value.int (@OfNat.ofNat Int (nat_lit 0) (@instOfNat (nat_lit 0))) 0), (Value.int (@OfNat.ofNat Int (nat_lit 3) (@instOfNat (nat_lit 3))) 0), (Value.ref 15), (Value.bool Bool.true), (Value.int (@OfNat.ofNat Int (nat_lit 181) (@instOfNat (nat_lit 181))) 0), (Value.ref 16), Value.none, (Value.ref 17), (Value.ref 18), (Value.ref 19), (Value.int (@OfNat.ofNat Int (nat_lit 191) (@instOfNat (nat_lit 191))) 0), (Value.int (@OfNat.ofNat Int (nat_lit 1) (@instOfNat (nat_lit 1))) 0), (Value.str (Str.ofString "/claim/cut.py") 192)])) (List.toArray []))) :: (((nat_lit 21), (Obj.mk (Value.type "function") none (Data.func (FuncData.mk (Str.ofString "_wall") (Str.ofString "_wall") a0 (FuncBody.stmts b0) s0 3 [] Value.none Value.none Value.none (Value.str (Str.ofString "__main__") 164) none (Value.ref 20) Value.none 0)) (List.toArray []))) :: (((nat_lit 22), (Obj.mk (Value.type "tuple") none (Data.seq (List.toArray []) 0) (List.toArray []))) :: (((nat_lit 24), (Obj.mk (Value.type "tuple") none (Data.seq (List.toArray [(Value.str (Str.ofString "ch_a") 205), (Value.str (Str.ofString "ch_b") 206)]) 0) (List.toArray []))) :: (((nat_lit 25), (Obj.mk (Value.type "tuple") none (Data.seq (List.toArray []) 0) (List.toArray []))) :: (((nat_lit 27), (Obj.mk (Value.type "code") none (Data.fields (List.toArray [(Value.str (Str.ofString "_substitution_cost") 202), (Value.str (Str.ofString "_substitution_cost") 203), (Value.str (Str.ofString "/claim/cut.py") 204), (Value.int (@OfNat.ofNat Int (nat_lit 8) (@instOfNat (nat_lit 8))) 0), (Value.int (@OfNat.ofNat Int (nat_lit 2) (@instOfNat (nat_lit 2))) 0), (Value.int (@OfNat.ofNat Int (nat_lit 0) (@instOfNat (nat_lit 0))) 0), (Value.int (@OfNat.ofNat Int (nat_lit 0) (@instOfNat (nat_lit 0))) 0), (Value.int (@OfNat.ofNat Int (nat_lit 3) (@instOfNat (nat_lit 3))) 0), (Value.ref 22), (Value.bool Bool.true), (Value.int (@OfNat.ofNat Int (nat_lit 181) (@instOfNat (nat_lit 181))) 0), (Value.ref 23), Value.none, (Value.ref 24), (Value.ref 25), (Value.ref 26), (Value.int (@OfNat.ofNat Int (nat_lit 207) (@instOfNat (nat_lit 207))) 0), (Value.int (@OfNat.ofNat Int (nat_lit 8) (@instOfNat (nat_lit 8))) 0), (Value.str (Str.ofString "/claim/cut.py") 208)])) (List.toArray []))) :: (((nat_lit 28), (Obj.mk (Value.type "function") none (Data.func (FuncData.mk (Str.ofString "_substitution_cost") (Str.ofString "_substitution_cost") a5 (FuncBody.stmts b5) s5 3 [] Value.none Value.none Value.none (Value.str (Str.ofString "cpy313.traceback") 194) none (Value.ref 27) Value.none 0)) (List.toArray []))) :: (((nat_lit 29), (Obj.mk (Value.type "tuple") none (Data.seq (List.toArray []) 0) (List.toArray []))) :: (((nat_lit 31), (Obj.mk (Value.type "tuple") none (Data.seq (List.toArray [(Value.str (Str.ofString "a") 213), (Value.str (Str.ofString "b") 214), (Value.str (Str.ofString "max_cost") 215), (Value.str (Str.ofString "pre") 216), (Value.str (Str.ofString "post") 217), (Value.str (Str.ofString "row") 218), (Value.str (Str.ofString "result") 219), (Value.str (Str.ofString "bindex") 220), (Value.str (Str.ofString "bchar") 221), (Value.str (Str.ofString "distance") 222), (Value.str (Str.ofString "minimum") 223), (Value.str (Str.ofString "index") 224), (Value.str (Str.ofString "substitute") 225), (Value.str (Str.ofString "insert_delete") 226)]) 0) (List.toArray []))) :: (((nat_lit 32), (Obj.mk (Value.type "tuple") none (Data.seq (List.toArray []) 0) (List.toArray []))) :: (((nat_lit 34), (Obj.mk (Value.type "code") none (Data.fields (List.toArray [(Value.str (Str.ofString "_levenshtein_distance") 210), (Value.str (Str.ofString "_levenshtein_distance") 211), (Value.str (Str.ofString "/claim/cut.py") 212), (Value.int (@OfNat.ofNat Int (nat_lit 14) (@instOfNat (nat_lit 14))) 0), (Value.int (@OfNat.ofNat Int (nat_lit 3) (@instOfNat (nat_lit 3))) 0), (Value.int (@OfNat.ofNat Int (nat_lit 0) (@instOfNat (nat_lit 0))) 0), (Value.int (@OfNat.ofNat Int (nat_lit 0) (@instOfNat (nat_lit 0))) 0), (Value.int (@OfNat.ofNat Int (nat_lit 3) (@instOfNat (nat_lit 3))) 0), (Value.ref 29), (Value.bool Bool.true), (Value.int (@OfNat.ofNat Int (nat_lit 181) (@instOfNat (nat_lit 181))) 0), (Value.ref 30), Value.none, (Value.ref 31), (Value.ref 32), (Value.ref 33), (Value.int (@OfNat.ofNat Int (nat_lit 227) (@instOfNat (nat_lit 227))) 0), (Value.int (@OfNat.ofNat Int (nat_lit 14) (@instOfNat (nat_lit 14))) 0), (Value.str (Str.ofString "/claim/cut.py") 228)])) (List.toArray []))) :: (((nat_lit 35), (Obj.mk (Value.type "function") none (Data.func (FuncData.mk (Str.ofString "_levenshtein_distance") (Str.ofString "_levenshtein_distance") a6 (FuncBody.stmts b6) s6 3 [] Value.none Value.none Value.none (Value.str (Str.ofString "cpy313.traceback") 194) none (Value.ref 34) Value.none 0)) (List.toArray []))) :: (((nat_lit 36), (Obj.mk (Value.type "tuple") none (Data.seq (List.toArray [(Value.type "bytes"), (Value.type "bytearray")]) 0) (List.toArray []))) :: (((nat_lit 37), (Obj.mk (Value.type "tuple") none (Data.seq (List.toArray []) 0) (List.toArray []))) :: (((nat_lit 39), (Obj.mk (Value.type "tuple") none (Data.seq (List.toArray [(Value.str (Str.ofString "s") 236)]) 0) (List.toArray []))) :: (((nat_lit 40), (Obj.mk (Value.type "tuple") none (Data.seq (List.toArray []) 0) (List.toArray []))) :: (((nat_lit 42), (Obj.mk (Value.type "code") none (Data.fields (List.toArray [(Value.str (Str.ofString "_bytes_from_decode_data") 233), (Value.str (Str.ofString "_bytes_from_decode_data") 234), (Value.str (Str.ofString "/claim/cut.py") 235), (Value.int (@OfNat.ofNat Int (nat_lit 54) (@instOfNat (nat_lit 54))) 0), (Value.int (@OfNat.ofNat Int (nat_lit 1) (@instOfNat (nat_lit 1))) 0), (Value.int (@OfNat.ofNat Int (nat_lit 0) (@instOfNat (nat_lit 0))) 0), (Value.int (@OfNat.ofNat Int (nat_lit 0) (@instOfNat (nat_lit 0))) 0), (Value.int (@OfNat.ofNat Int (nat_lit 3) (@instOfNat (nat_lit 3))) 0), (Value.ref 37), (Value.bool Bool.true), (Value.int (@OfNat.ofNat Int (nat_lit 181) (@instOfNat (nat_lit 181))) 0), (Value.ref 38), Value.none, (Value.ref 39), (Value.ref 40), (Value.ref 41), (Value.int (@OfNat.ofNat Int (nat_lit 237) (@instOfNat (nat_lit 237))) 0), (Value.int (@OfNat.ofNat Int (nat_lit 54) (@instOfNat (nat_lit 54))) 0), (Value.str (Str.ofString "/claim/cut.py") 238)])) (List.toArray []))) :: (((nat_lit 43), (Obj.mk (Value.type "function") none (Data.func (FuncData.mk (Str.ofString "_bytes_from_decode_data") (Str.ofString "_bytes_from_decode_data") a9 (FuncBody.stmts b9) s9 3 [] Value.none Value.none Value.none (Value.str (Str.ofString "cpy313.base64") 230) none (Value.ref 42) Value.none 0)) (List.toArray []))) :: (((nat_lit 44), (Obj.mk (Value.type "tuple") none (Data.seq (List.toArray [(Value.type "ValueError")]) 0) (List.toArray []))) :: (((nat_lit 51), (Obj.mk (Value.type "tuple") none (Data.seq (List.toArray []) 0) (List.toArray []))) :: (((nat_lit 52), (Obj.mk (Value.type "dict") none (Data.dict (List.toArray [(DictEntry.mk (PyData.keyHash P (Str.ofString "__module__")) (Value.str (Str.ofString "__module__") 249) (Value.str (Str.ofString "binascii") 240)), (DictEntry.mk (PyData.keyHash P (Str.ofString "__firstlineno__")) (Value.str (Str.ofString "__firstlineno__") 253) (Value.int (@OfNat.ofNat Int (nat_lit 67) (@instOfNat (nat_lit 67))) 252)), (DictEntry.mk (PyData.keyHash P (Str.ofString "__static_attributes__")) (Value.str (Str.ofString "__static_attributes__") 254) (Value.ref 51)), (DictEntry.mk (PyData.keyHash P (Str.ofString "__weakref__")) (Value.str (Str.ofString "__weakref__") 256) (Value.ref 54)), (DictEntry.mk (PyData.keyHash P (Str.ofString "__doc__")) (Value.str (Str.ofString "__doc__") 257) Value.none)]) 3) (List.toArray []))) :: (((nat_lit 53), (Obj.mk (Value.type "type") none (Data.cls (ClassData.mk (Str.ofString "Error") [(Value.type "ValueError")] [(Value.ref 53), (Value.type "ValueError"), (Value.type "Exception"), (Value.type "BaseException"), (Value.type "object")] 52 (Str.ofString "Error") Bool.true [] [] Bool.false none Bool.false)) (List.toArray [(Option.some (Value.ref 44)), none, (Option.some (Value.str (Str.ofString "Error") 242)), (Option.some (Value.str (Str.ofString "Error") 250)), (Option.some (Value.builtin "ValueError.__new__")), (Option.some (Value.bool Bool.true))]))) :: (((nat_lit 54), (Obj.mk (Value.type "getset_descriptor") none (Data.fields (List.toArray [(Value.str (Str.ofString "__weakref__") 255), (Value.ref 53), (Value.builtin "ExceptionGroup.__weakref__"), Value.none])) (List.toArray []))) :: (((nat_lit 57), (Obj.mk (Value.type "tuple") none (Data.seq (List.toArray []) 0) (List.toArray []))) :: (((nat_lit 59), (Obj.mk (Value.type "tuple") none (Data.seq (List.toArray [(Value.str (Str.ofString "data") 263), (Value.str (Str.ofString "t") 264)]) 0) (List.toArray []))) :: (((nat_lit 60), (Obj.mk (Value.type "tuple") none (Data.seq (List.toArray []) 0) (List.toArray []))) :: (((nat_lit 62), (Obj.mk (Value.type "code") none (Data.fields (List.toArray [(Value.str (Str.ofString "_ascii_buffer") 260), (Value.str (Str.ofString "_ascii_buffer") 261), (Value.str (Str.ofString "/claim/cut.py") 262), (Value.int (@OfNat.ofNat Int (nat_lit 69) (@instOfNat (nat_lit 69))) 0), (Value.int (@OfNat.ofNat Int (nat_lit 1) (@instOfNat (nat_lit 1))) 0), (Value.int (@OfNat.ofNat Int (nat_lit 0) (@instOfNat (nat_lit 0))) 0), (Value.int (@OfNat.ofNat Int (nat_lit 0) (@instOfNat (nat_lit 0))) 0), (Value.int (@OfNat.ofNat Int (nat_lit 3) (@instOfNat (nat_lit 3))) 0), (Value.ref 57), (Value.bool Bool.true), (Value.int (@OfNat.ofNat Int (nat_lit 181) (@instOfNat (nat_lit 181))) 0), (Value.ref 58), Value.none, (Value.ref 59), (Value.ref 60), (Value.ref 61), (Value.int (@OfNat.ofNat Int (nat_lit 265) (@instOfNat (nat_lit 265))) 0), (Value.int (@OfNat.ofNat Int (nat_lit 69) (@instOfNat (nat_lit 69))) 0), (Value.str (Str.ofString "/claim/cut.py") 266)])) (List.toArray []))) :: (((nat_lit 63), (Obj.mk (Value.type "function") none (Data.func (FuncData.mk (Str.ofString "_ascii_buffer") (Str.ofString "_ascii_buffer") a12 (FuncBody.stmts b12) s12 3 [] Value.none Value.none Value.none (Value.str (Str.ofString "binascii") 240) none (Value.ref 62) Value.none 0)) (List.toArray []))) :: (((nat_lit 64), (Obj.mk (Value.type "tuple") none (Data.seq (List.toArray []) 0) (List.toArray []))) :: (((nat_lit 66), (Obj.mk (Value.type "tuple") none (Data.seq (List.toArray [(Value.str (Str.ofString "data") 271), (Value.str (Str.ofString "t") 272)]) 0) (List.toArray []))) :: (((nat_lit 67), (Obj.mk (Value.type "tuple") none (Data.seq (List.toArray []) 0) (List.toArray []))) :: (((nat_lit 69), (Obj.mk (Value.type "code") none (Data.fields (List.toArray [(Value.str (Str.ofString "_buffer") 268), (Value.str (Str.ofString "_buffer") 269), (Value.str (Str.ofString "/claim/cut.py") 270), (Value.int (@OfNat.ofNat Int (nat_lit 80) (@instOfNat (nat_lit 80))) 0), (Value.int (@OfNat.ofNat Int (nat_lit 1) (@instOfNat (nat_lit 1))) 0), (Value.int (@OfNat.ofNat Int (nat_lit 0) (@instOfNat (nat_lit 0))) 0), (Value.int (@OfNat.ofNat Int (nat_lit 0) (@instOfNat (nat_lit 0))) 0), (Value.int (@OfNat.ofNat Int (nat_lit 3) (@instOfNat (nat_lit 3))) 0), (Value.ref 64), (Value.bool Bool.true), (Value.int (@OfNat.ofNat Int (nat_lit 181) (@instOfNat (nat_lit 181))) 0), (Value.ref 65), Value.none, (Value.ref 66), (Value.ref 67), (Value.ref 68), (Value.int (@OfNat.ofNat Int (nat_lit 273) (@instOfNat (nat_lit 273))) 0), (Value.int (@OfNat.ofNat Int (nat_lit 80) (@instOfNat (nat_lit 80))) 0), (Value.str (Str.ofString "/claim/cut.py") 274)])) (List.toArray []))) :: (((nat_lit 70), (Obj.mk (Value.type "function") none (Data.func (FuncData.mk (Str.ofString "_buffer") (Str.ofString "_buffer") a13 (FuncBody.stmts b13) s13 3 [] Value.none Value.none Value.none (Value.str (Str.ofString "binascii") 240) none (Value.ref 69) Value.none 0)) (List.toArray []))) :: (((nat_lit 71), (Obj.mk (Value.type "tuple") none (Data.seq (List.toArray []) 0) (List.toArray []))) :: (((nat_lit 73), (Obj.mk (Value.type "tuple") none (Data.seq (List.toArray [(Value.str (Str.ofString "x") 279), (Value.str (Str.ofString "t") 280)]) 0) (List.toArray []))) :: (((nat_lit 74), (Obj.mk (Value.type "tuple") none (Data.seq (List.toArray []) 0) (List.toArray []))) :: (((nat_lit 76), (Obj.mk (Value.type "code") none (Data.fields (List.toArray [(Value.str (Str.ofString "_truth") 276), (Value.str (Str.ofString "_truth") 277), (Value.str (Str.ofString "/claim/cut.py") 278), (Value.int (@OfNat.ofNat Int (nat_lit 87) (@instOfNat (nat_lit 87))) 0), (Value.int (@OfNat.ofNat Int (nat_lit 1) (@instOfNat (nat_lit 1))) 0), (Value.int (@OfNat.ofNat Int (nat_lit 0) (@instOfNat (nat_lit 0))) 0), (Value.int (@OfNat.ofNat Int (nat_lit 0) (@instOfNat (nat_lit 0))) 0), (Value.int (@OfNat.ofNat Int (nat_lit 3) (@instOfNat (nat_lit 3))) 0), (Value.ref 71), (Value.bool Bool.true), (Value.int (@OfNat.ofNat Int (nat_lit 181) (@instOfNat (nat_lit 181))) 0), (Value.ref 72), Value.none, (Value.ref 73), (Value.ref 74), (Value.ref 75), (Value.int (@OfNat.ofNat Int (nat_lit 281) (@instOfNat (nat_lit 281))) 0), (Value.int (@OfNat.ofNat Int (nat_lit 87) (@instOfNat (nat_lit 87))) 0), (Value.str (Str.ofString "/claim/cut.py") 282)])) (List.toArray []))) :: (((nat_lit 77), (Obj.mk (Value.type "function") none (Data.func (FuncData.mk (Str.ofString "_truth") (Str.ofString "_truth") a14 (FuncBody.stmts b14) s14 3 [] Value.none Value.none Value.none (Value.str (Str.ofString "binascii") 240) none (Value.ref 76) Value.none 0)) (List.toArray []))) :: (((nat_lit 78), (Obj.mk (Value.type "tuple") none (Data.seq (List.toArray []) 0) (List.toArray []))) :: (((nat_lit 80), (Obj.mk (Value.type "tuple") none (Data.seq (List.toArray [(Value.str (Str.ofString "c") 289)]) 0) (List.toArray []))) :: (((nat_lit 81), (Obj.mk (Value.type "tuple") none (Data.seq (List.toArray []) 0) (List.toArray []))) :: (((nat_lit 83), (Obj.mk (Value.type "code") none (Data.fields (List.toArray [(Value.str (Str.ofString "_b64_value") 286), (Value.str (Str.ofString "_b64_value") 287), (Value.str (Str.ofString "/claim/cut.py") 288), (Value.int (@OfNat.ofNat Int (nat_lit 93) (@instOfNat (nat_lit 93))) 0), (Value.int (@OfNat.ofNat Int (nat_lit 1) (@instOfNat (nat_lit 1))) 0), (Value.int (@OfNat.ofNat Int (nat_lit 0) (@instOfNat (nat_lit 0))) 0), (Value.int (@OfNat.ofNat Int (nat_lit 0) (@instOfNat (nat_lit 0))) 0), (Value.int (@OfNat.ofNat Int (nat_lit 3) (@instOfNat (nat_lit 3))) 0), (Value.ref 78), (Value.bool Bool.true), (Value.int (@OfNat.ofNat Int (nat_lit 181) (@instOfNat (nat_lit 181))) 0), (Value.ref 79), Value.none, (Value.ref 80), (Value.ref 81), (Value.ref 82), (Value.int (@OfNat.ofNat Int (nat_lit 290) (@instOfNat (nat_lit 290))) 0), (Value.int (@OfNat.ofNat Int (nat_lit 93) (@instOfNat (nat_lit 93))) 0), (Value.str (Str.ofString "/claim/cut.py") 291)])) (List.toArray []))) :: (((nat_lit 84), (Obj.mk (Value.type "function") none (Data.func (FuncData.mk (Str.ofString "_b64_value") (Str.ofString "_b64_value") a16 (FuncBody.stmts b16) s16 3 [] Value.none Value.none Value.none (Value.str (Str.ofString "binascii") 240) none (Value.ref 83) Value.none 0)) (List.toArray []))) :: (((nat_lit 85), (Obj.mk (Value.type "dict") none (Data.dict (List.toArray [(DictEntry.mk (PyData.keyHash P (Str.ofString "strict_mode")) (Value.str (Str.ofString "strict_mode") 293) (Value.bool Bool.false))]) 1) (List.toArray []))) :: (((nat_lit 86), (Obj.mk (Value.type "tuple") none (Data.seq (List.toArray []) 0) (List.toArray []))) :: (((nat_lit 88), (Obj.mk (Value.type "tuple") none (Data.seq (List.toArray [(Value.str (Str.ofString "data") 297), (Value.str (Str.ofString "strict_mode") 298), (Value.str (Str.ofString "ascii_data") 299), (Value.str (Str.ofString "out") 300), (Value.str (Str.ofString "quad_pos") 301), (Value.str (Str.ofString "leftchar") 302), (Value.str (Str.ofString "pads") 303), (Value.str (Str.ofString "i") 304), (Value.str (Str.ofString "this_ch") 305)]) 0) (List.toArray []))) :: (((nat_lit 89), (Obj.mk (Value.type "tuple") none (Data.seq (List.toArray []) 0) (List.toArray []))) :: (((nat_lit 91), (Obj.mk (Value.type "code") none (Data.fields (List.toArray [(Value.str (Str.ofString "a2b_base64") 294), (Value.str (Str.ofString "a2b_base64") 295), (Value.str (Str.ofString "/claim/cut.py") 296), (Value.int (@OfNat.ofNat Int (nat_lit 105) (@instOfNat (nat_lit 105))) 0), (Value.int (@OfNat.ofNat Int (nat_lit 1) (@instOfNat (nat_lit 1))) 0), (Value.int (@OfNat.ofNat Int (nat_lit 1) (@instOfNat (nat_lit 1))) 0), (Value.int (@OfNat.ofNat Int (nat_lit 1) (@instOfNat (nat_lit 1))) 0), (Value.int (@OfNat.ofNat Int (nat_lit 3) (@instOfNat (nat_lit 3))) 0), (Value.ref 86), (Value.bool Bool.true), (Value.int (@OfNat.ofNat Int (nat_lit 181) (@instOfNat (nat_lit 181))) 0), (Value.ref 87), Value.none, (Value.ref 88), (Value.ref 89), (Value.ref 90), (Value.int (@OfNat.ofNat Int (nat_lit 306) (@instOfNat (nat_lit 306))) 0), (Value.int (@OfNat.ofNat Int (nat_lit 105) (@instOfNat (nat_lit 105))) 0), (Value.str (Str.ofString "/claim/cut.py") 307)])) (List.toArray []))) :: (((nat_lit 92), (Obj.mk (Value.type "function") none (Data.func (FuncData.mk (Str.ofString "a2b_base64") (Str.ofString "a2b_base64") a17 (FuncBody.stmts b17) s17 3 [] Value.none (Value.ref 85) Value.none (Value.str (Str.ofString "binascii") 240) none (Value.ref 91) Value.none 0)) (List.toArray []))) :: (((nat_lit 93), (Obj.mk (Value.type "dict") none (Data.dict (List.toArray [(DictEntry.mk (PyData.keyHash P (Str.ofString "newline")) (Value.str (Str.ofString "newline") 309) (Value.bool Bool.true))]) 1) (List.toArray []))) :: (((nat_lit 94), (Obj.mk (Value.type "tuple") none (Data.seq (List.toArray []) 0) (List.toArray []))) :: (((nat_lit 96), (Obj.mk (Value.type "tuple") none (Data.seq (List.toArray [(Value.str (Str.ofString "data") 313), (Value.str (Str.ofString "newline") 314), (Value.str (Str.ofString "bin_data") 315), (Value.str (Str.ofString "out") 316), (Value.str (Str.ofString "leftbits") 317), (Value.str (Str.ofString "leftchar") 318), (Value.str (Str.ofString "b") 319)]) 0) (List.toArray []))) :: (((nat_lit 97), (Obj.mk (Value.type "tuple") none (Data.seq (List.toArray []) 0) (List.toArray []))) :: (((nat_lit 99), (Obj.mk (Value.type "code") none (Data.fields (List.toArray [(Value.str (Str.ofString "b2a_base64") 310), (Value.str (Str.ofString "b2a_base64") 311), (Value.str (Str.ofString "/claim/cut.py") 312), (Value.int (@OfNat.ofNat Int (nat_lit 159) (@instOfNat (nat_lit 159))) 0), (Value.int (@OfNat.ofNat Int (nat_lit 1) (@instOfNat (nat_lit 1))) 0), (Value.int (@OfNat.ofNat Int (nat_lit 1) (@instOfNat (nat_lit 1))) 0), (Value.int (@OfNat.ofNat Int (nat_lit 1) (@instOfNat (nat_lit 1))) 0), (Value.int (@OfNat.ofNat Int (nat_lit 3) (@instOfNat (nat_lit 3))) 0), (Value.ref 94), (Value.bool Bool.true), (Value.int (@OfNat.ofNat Int (nat_lit 181) (@instOfNat (nat_lit 181))) 0), (Value.ref 95), Value.none, (Value.ref 96), (Value.ref 97), (Value.ref 98), (Value.int (@OfNat.ofNat Int (nat_lit 320) (@instOfNat (nat_lit 320))) 0), (Value.int (@OfNat.ofNat Int (nat_lit 159) (@instOfNat (nat_lit 159))) 0), (Value.str (Str.ofString "/claim/cut.py") 321)])) (List.toArray []))) :: (((nat_lit 100), (Obj.mk (Value.type "function") none (Data.func (FuncData.mk (Str.ofString "b2a_base64") (Str.ofString "b2a_base64") a18 (FuncBody.stmts b18) s18 3 [] Value.none (Value.ref 93) Value.none (Value.str (Str.ofString "binascii") 240) none (Value.ref 99) Value.none 0)) (List.toArray []))) :: (((nat_lit 101), (Obj.mk (Value.type "tuple") none (Data.seq (List.toArray [Value.none]) 0) (List.toArray []))) :: (((nat_lit 102), (Obj.mk (Value.type "tuple") none (Data.seq (List.toArray []) 0) (List.toArray []))) :: (((nat_lit 104), (Obj.mk (Value.type "tuple") none (Data.seq (List.toArray [(Value.str (Str.ofString "s") 328), (Value.str (Str.ofString "altchars") 329), (Value.str (Str.ofString "encoded") 330)]) 0) (List.toArray []))) :: (((nat_lit 105), (Obj.mk (Value.type "tuple") none (Data.seq (List.toArray []) 0) (List.toArray []))) :: (((nat_lit 107), (Obj.mk (Value.type "code") none (Data.fields (List.toArray [(Value.str (Str.ofString "b64encode") 325), (Value.str (Str.ofString "b64encode") 326), (Value.str (Str.ofString "/claim/cut.py") 327), (Value.int (@OfNat.ofNat Int (nat_lit 182) (@instOfNat (nat_lit 182))) 0), (Value.int (@OfNat.ofNat Int (nat_lit 2) (@instOfNat (nat_lit 2))) 0), (Value.int (@OfNat.ofNat Int (nat_lit 0) (@instOfNat (nat_lit 0))) 0), (Value.int (@OfNat.ofNat Int (nat_lit 0) (@instOfNat (nat_lit 0))) 0), (Value.int (@OfNat.ofNat Int (nat_lit 3) (@instOfNat (nat_lit 3))) 0), (Value.ref 102), (Value.bool Bool.true), (Value.int (@OfNat.ofNat Int (nat_lit 181) (@instOfNat (nat_lit 181))) 0), (Value.ref 103), Value.none, (Value.ref 104), (Value.ref 105), (Value.ref 106), (Value.int (@OfNat.ofNat Int (nat_lit 331) (@instOfNat (nat_lit 331))) 0), (Value.int (@OfNat.ofNat Int (nat_lit 182) (@instOfNat (nat_lit 182))) 0), (Value.str (Str.ofString "/claim/cut.py") 332)])) (List.toArray []))) :: (((nat_lit 108), (Obj.mk (Value.type "function") none (Data.func (FuncData.mk (Str.ofString "b64encode") (Str.ofString "b64encode") a20 (FuncBody.stmts b20) s20 3 [] (Value.ref 101) Value.none Value.none (Value.str (Str.ofString "cpy313.base64") 323) none (Value.ref 107) Value.none 0)) (List.toArray []))) :: (((nat_lit 109), (Obj.mk (Value.type "tuple") none (Data.seq (List.toArray [Value.none, (Value.bool Bool.false)]) 0) (List.toArray []))) :: (((nat_lit 110), (Obj.mk (Value.type "tuple") none (Data.seq (List.toArray []) 0) (List.toArray []))) :: [((nat_lit 112), (Obj.mk (Value.type "tuple") none (Data.seq (List.toArray [(Value.str (Str.ofString "s") 337), (Value.str (Str.ofString "altchars") 338), (Value.str (Str.ofString "validate") 339)]) 0) (List.toArray []))), ((nat_lit 113), (Obj.mk (Value.type "tuple") none (Data.seq (List.toArray []) 0) (List.toArray []))), ((nat_lit 115), (Obj.mk (Value.type "code") none (Data.fields (List.toArray [(Value.str (Str.ofString "b64decode") 334), (Value.str (Str.ofString "b64decode") 335), (Value.str (Str.ofString "/claim/cut.py") 336), (Value.int (@OfNat.ofNat Int (nat_lit 188) (@instOfNat (nat_lit 188))) 0), (Value.int (@OfNat.ofNat Int (nat_lit 3) (@instOfNat (nat_lit 3))) 0), (Value.int (@OfNat.ofNat Int (nat_lit 0) (@instOfNat (nat_lit 0))) 0), (Value.int (@OfNat.ofNat Int (nat_lit 0) (@instOfNat (nat_lit 0))) 0), (Value.int (@OfNat.ofNat Int (nat_lit 3) (@instOfNat (nat_lit 3))) 0), (Value.ref 110), (Value.bool Bool.true), (Value.int (@OfNat.ofNat Int (nat_lit 181) (@instOfNat (nat_lit 181))) 0), (Value.ref 111), Value.none, (Value.ref 112), (Value.ref 113), (Value.ref 114), (Value.int (@OfNat.ofNat Int (nat_lit 340) (@instOfNat (nat_lit 340))) 0), (Value.int (@OfNat.ofNat Int (nat_lit 188) (@instOfNat (nat_lit 188))) 0), (Value.str (Str.ofString "/claim/cut.py") 341)])) (List.toArray []))), ((nat_lit 116), (Obj.mk (Value.type "function") none (Data.func (FuncData.mk (Str.ofString "b64decode") (Str.ofString "b64decode") a21 (FuncBody.stmts b21) s21 3 [] (Value.ref 109) Value.none Value.none (Value.str (Str.ofString "cpy313.base64") 323) none (Value.ref 115) Value.none 0)) (List.toArray []))), ((nat_lit 117), (Obj.mk (Value.type "tuple") none (Data.seq (List.toArray []) 0) (List.toArray []))), ((nat_lit 119), (Obj.mk (Value.type "tuple") none (Data.seq (List.toArray [(Value.str (Str.ofString "expected") 348), (Value.str (Str.ofString "actual") 349), (Value.str (Str.ofString "missing") 350), (Value.str (Str.ofString "item") 351)]) 0) (List.toArray []))), ((nat_lit 120), (Obj.mk (Value.type "tuple") none (Data.seq (List.toArray []) 0) (List.toArray []))), ((nat_lit 122), (Obj.mk (Value.type "code") none (Data.fields (List.toArray [(Value.str (Str.ofString "unorderable_list_difference") 345), (Value.str (Str.ofString "unorderable_list_difference") 346), (Value.str (Str.ofString "/claim/cut.py") 347), (Value.int (@OfNat.ofNat Int (nat_lit 196) (@instOfNat (nat_lit 196))) 0), (Value.int (@OfNat.ofNat Int (nat_lit 2) (@instOfNat (nat_lit 2))) 0), (Value.int (@OfNat.ofNat Int (nat_lit 0) (@instOfNat (nat_lit 0))) 0), (Value.int (@OfNat.ofNat Int (nat_lit 0) (@instOfNat (nat_lit 0))) 0), (Value.int (@OfNat.ofNat Int (nat_lit 3) (@instOfNat (nat_lit 3))) 0), (Value.ref 117), (Value.bool Bool.true), (Value.int (@OfNat.ofNat Int (nat_lit 181) (@instOfNat (nat_lit 181))) 0), (Value.ref 118), Value.none, (Value.ref 119), (Value.ref 120), (Value.ref 121), (Value.int (@OfNat.ofNat Int (nat_lit 352) (@instOfNat (nat_lit 352))) 0), (Value.int (@OfNat.ofNat Int (nat_lit 196) (@instOfNat (nat_lit 196))) 0), (Value.str (Str.ofString "/claim/cut.py") 353)])) (List.toArray []))), ((nat_lit 123), (Obj.mk (Value.type "function") none (Data.func (FuncData.mk (Str.ofString "unorderable_list_difference") (Str.ofString "unorderable_list_difference") a23 (FuncBody.stmts b23) s23 3 [] Value.none Value.none Value.none (Value.str (Str.ofString "cpy313.unittest.util") 343) none (Value.ref 122) Value.none 0)) (List.toArray []))), ((nat_lit 124), (Obj.mk (Value.type "tuple") none (Data.seq (List.toArray []) 0) (List.toArray []))), ((nat_lit 127), (Obj.mk (Value.type "code") none (Data.fields (List.toArray [(Value.str (Str.ofString "_law_text") 357), (Value.str (Str.ofString "_law_text") 358), (Value.str (Str.ofString "/claim/cut.py") 359), (Value.int (@OfNat.ofNat Int (nat_lit 206) (@instOfNat (nat_lit 206))) 0), (Value.int (@OfNat.ofNat Int (nat_lit 1) (@instOfNat (nat_lit 1))) 0), (Value.int (@OfNat.ofNat Int (nat_lit 0) (@instOfNat (nat_lit 0))) 0), (Value.int (@OfNat.ofNat Int (nat_lit 0) (@instOfNat (nat_lit 0))) 0), (Value.int (@OfNat.ofNat Int (nat_lit 3) (@instOfNat (nat_lit 3))) 0), (Value.ref 124), (Value.bool Bool.true), (Value.int (@OfNat.ofNat Int (nat_lit 181) (@instOfNat (nat_lit 181))) 0), (Value.ref 125), Value.none, Value.none, Value.none, (Value.ref 126), (Value.int (@OfNat.ofNat Int (nat_lit 360) (@instOfNat (nat_lit 360))) 0), (Value.int (@OfNat.ofNat Int (nat_lit 206) (@instOfNat (nat_lit 206))) 0), (Value.str (Str.ofString "/claim/cut.py") 361)])) (List.toArray []))), ((nat_lit 128), (Obj.mk (Value.type "function") none (Data.func (FuncData.mk (Str.ofString "_law_text") (Str.ofString "_law_text") a25 (FuncBody.stmts b25) s25 3 [] Value.none Value.none Value.none (Value.str (Str.ofString "law_qw0006_01") 355) none (Value.ref 127) Value.none 0)) (List.toArray []))), ((nat_lit 129), (Obj.mk (Value.type "tuple") none (Data.seq (List.toArray []) 0) (List.toArray []))), ((nat_lit 131), (Obj.mk (Value.type "tuple") none (Data.seq (List.toArray [(Value.str (Str.ofString "group") 366), (Value.str (Str.ofString "number") 367)]) 0) (List.toArray []))), ((nat_lit 132), (Obj.mk (Value.type "tuple") none (Data.seq (List.toArray []) 0) (List.toArray []))), ((nat_lit 134), (Obj.mk (Value.type "code") none (Data.fields (List.toArray [(Value.str (Str.ofString "_law_octets") 363), (Value.str (Str.ofString "_law_octets") 364), (Value.str (Str.ofString "/claim/cut.py") 365), (Value.int (@OfNat.ofNat Int (nat_lit 209) (@instOfNat (nat_lit 209))) 0), (Value.int (@OfNat.ofNat Int (nat_lit 1) (@instOfNat (nat_lit 1))) 0), (Value.int (@OfNat.ofNat Int (nat_lit 0) (@instOfNat (nat_lit 0))) 0), (Value.int (@OfNat.ofNat Int (nat_lit 0) (@instOfNat (nat_lit 0))) 0), (Value.int (@OfNat.ofNat Int (nat_lit 3) (@instOfNat (nat_lit 3))) 0), (Value.ref 129), (Value.bool Bool.true), (Value.int (@OfNat.ofNat Int (nat_lit 181) (@instOfNat (nat_lit 181))) 0), (Value.ref 130), Value.none, (Value.ref 131), (Value.ref 132), (Value.ref 133), (Value.int (@OfNat.ofNat Int (nat_lit 368) (@instOfNat (nat_lit 368))) 0), (Value.int (@OfNat.ofNat Int (nat_lit 209) (@instOfNat (nat_lit 209))) 0), (Value.str (Str.ofString "/claim/cut.py") 369)])) (List.toArray []))), ((nat_lit 135), (Obj.mk (Value.type "function") none (Data.func (FuncData.mk (Str.ofString "_law_octets") (Str.ofString "_law_octets") a26 (FuncBody.stmts b26) s26 3 [] Value.none Value.none Value.none (Value.str (Str.ofString "law_qw0006_01") 355) none (Value.ref 134) Value.none 0)) (List.toArray []))), ((nat_lit 136), (Obj.mk (Value.type "tuple") none (Data.seq (List.toArray []) 0) (List.toArray []))), ((nat_lit 138), (Obj.mk (Value.type "tuple") none (Data.seq (List.toArray [(Value.str (Str.ofString "here") 374), (Value.str (Str.ofString "place") 375), (Value.str (Str.ofString "backwards") 376), (Value.str (Str.ofString "step") 377)]) 0) (List.toArray []))), ((nat_lit 139), (Obj.mk (Value.type "tuple") none (Data.seq (List.toArray []) 0) (List.toArray []))), ((nat_lit 141), (Obj.mk (Value.type "code") none (Data.fields (List.toArray [(Value.str (Str.ofString "_law_far") 371), (Value.str (Str.ofString "_law_far") 372), (Value.str (Str.ofString "/claim/cut.py") 373), (Value.int (@OfNat.ofNat Int (nat_lit 212) (@instOfNat (nat_lit 212))) 0), (Value.int (@OfNat.ofNat Int (nat_lit 3) (@instOfNat (nat_lit 3))) 0), (Value.int (@OfNat.ofNat Int (nat_lit 0) (@instOfNat (nat_lit 0))) 0), (Value.int (@OfNat.ofNat Int (nat_lit 0) (@instOfNat (nat_lit 0))) 0), (Value.int (@OfNat.ofNat Int (nat_lit 3) (@instOfNat (nat_lit 3))) 0), (Value.ref 136), (Value.bool Bool.true), (Value.int (@OfNat.ofNat Int (nat_lit 181) (@instOfNat (nat_lit 181))) 0), (Value.ref 137), Value.none, (Value.ref 138), (Value.ref 139), (Value.ref 140), (Value.int (@OfNat.ofNat Int (nat_lit 378) (@instOfNat (nat_lit 378))) 0), (Value.int (@OfNat.ofNat Int (nat_lit 212) (@instOfNat (nat_lit 212))) 0), (Value.str (Str.ofString "/claim/cut.py") 379)])) (List.toArray []))), ((nat_lit 142), (Obj.mk (Value.type "function") none (Data.func (FuncData.mk (Str.ofString "_law_far") (Str.ofString "_law_far") a27 (FuncBody.stmts b27) s27 3 [] Value.none Value.none Value.none (Value.str (Str.ofString "law_qw0006_01") 355) none (Value.ref 141) Value.none 0)) (List.toArray []))), ((nat_lit 143), (Obj.mk (Value.type "tuple") none (Data.seq (List.toArray []) 0) (List.toArray []))), ((nat_lit 145), (Obj.mk (Value.type "tuple") none (Data.seq (List.toArray [(Value.str (Str.ofString "text") 384), (Value.str (Str.ofString "place") 385), (Value.str (Str.ofString "backwards") 386), (Value.str (Str.ofString "piece") 387)]) 0) (List.toArray []))), ((nat_lit 146), (Obj.mk (Value.type "tuple") none (Data.seq (List.toArray []) 0) (List.toArray []))), ((nat_lit 148), (Obj.mk (Value.type "code") none (Data.fields (List.toArray [(Value.str (Str.ofString "_law_piece") 381), (Value.str (Str.ofString "_law_piece") 382), (Value.str (Str.ofString "/claim/cut.py") 383), (Value.int (@OfNat.ofNat Int (nat_lit 217) (@instOfNat (nat_lit 217))) 0), (Value.int (@OfNat.ofNat Int (nat_lit 3) (@instOfNat (nat_lit 3))) 0), (Value.int (@OfNat.ofNat Int (nat_lit 0) (@instOfNat (nat_lit 0))) 0), (Value.int (@OfNat.ofNat Int (nat_lit 0) (@instOfNat (nat_lit 0))) 0), (Value.int (@OfNat.ofNat Int (nat_lit 3) (@instOfNat (nat_lit 3))) 0), (Value.ref 143), (Value.bool Bool.true), (Value.int (@OfNat.ofNat Int (nat_lit 181) (@instOfNat (nat_lit 181))) 0), (Value.ref 144), Value.none, (Value.ref 145), (Value.ref 146), (Value.ref 147), (Value.int (@OfNat.ofNat Int (nat_lit 388) (@instOfNat (nat_lit 388))) 0), (Value.int (@OfNat.ofNat Int (nat_lit 217) (@instOfNat (nat_lit 217))) 0), (Value.str (Str.ofString "/claim/cut.py") 389)])) (List.toArray []))), ((nat_lit 149), (Obj.mk (Value.type "function") none (Data.func (FuncData.mk (Str.ofString "_law_piece") (Str.ofString "_law_piece") a28 (FuncBody.stmts b28) s28 3 [] Value.none Value.none Value.none (Value.str (Str.ofString "law_qw0006_01") 355) none (Value.ref 148) Value.none 0)) (List.toArray []))), ((nat_lit 150), (Obj.mk (Value.type "tuple") none (Data.seq (List.toArray []) 0) (List.toArray []))), ((nat_lit 153), (Obj.mk (Value.type "code") none (Data.fields (List.toArray [(Value.str (Str.ofString "law") 391), (Value.str (Str.ofString "law") 392), (Value.str (Str.ofString "/claim/cut.py") 393), (Value.int (@OfNat.ofNat Int (nat_lit 222) (@instOfNat (nat_lit 222))) 0), (Value.int (@OfNat.ofNat Int (nat_lit 1) (@instOfNat (nat_lit 1))) 0), (Value.int (@OfNat.ofNat Int (nat_lit 0) (@instOfNat (nat_lit 0))) 0), (Value.int (@OfNat.ofNat Int (nat_lit 0) (@instOfNat (nat_lit 0))) 0), (Value.int (@OfNat.ofNat Int (nat_lit 3) (@instOfNat (nat_lit 3))) 0), (Value.ref 150), (Value.bool Bool.true), (Value.int (@OfNat.ofNat Int (nat_lit 181) (@instOfNat (nat_lit 181))) 0), (Value.ref 151), Value.none, Value.none, Value.none, (Value.ref 152), (Value.int (@OfNat.ofNat Int (nat_lit 394) (@instOfNat (nat_lit 394))) 0), (Value.int (@OfNat.ofNat Int (nat_lit 222) (@instOfNat (nat_lit 222))) 0), (Value.str (Str.ofString "/claim/cut.py") 395)])) (List.toArray []))), ((nat_lit 154), (Obj.mk (Value.type "function") none (Data.func (FuncData.mk (Str.ofString "law") (Str.ofString "law") a29 (FuncBody.stmts b29) (Scope.mk ScopeKind.function (((Str.ofString "script"), NameKind.cell) :: (((Str.ofString "start"), NameKind.cell) :: (((Str.ofString "draws"), NameKind.local) :: (((Str.ofString "kinds"), NameKind.local) :: (((Str.ofString "figures"), NameKind.local) :: (((Str.ofString "draw"), NameKind.local) :: (((Str.ofString "small"), NameKind.local) :: (((Str.ofString "kind"), NameKind.local) :: (((Str.ofString "row"), NameKind.local) :: (((Str.ofString "written"), NameKind.local) :: (((Str.ofString "whole"), NameKind.cell) :: (((Str.ofString "places"), NameKind.local) :: [((Str.ofString "place"), NameKind.local), ((Str.ofString "pile"), NameKind.local), ((Str.ofString "turn"), NameKind.local), ((Str.ofString "here"), NameKind.cell), ((Str.ofString "text"), NameKind.local), ((Str.ofString "piece"), NameKind.cell), ((Str.ofString "backwards"), NameKind.local), ((Str.ofString "fars"), NameKind.local), ((Str.ofString "nearest"), NameKind.local), ((Str.ofString "step"), NameKind.local), ((Str.ofString "first"), NameKind.local), ((Str.ofString "second"), NameKind.local), ((Str.ofString "told"), NameKind.local), ((Str.ofString "lacks"), NameKind.local), ((Str.ofString "comes"), NameKind.local), ((Str.ofString "read"), NameKind.local), ((Str.ofString "range"), NameKind.globalImplicit), ((Str.ofString "list"), NameKind.globalImplicit), ((Str.ofString "len"), NameKind.globalImplicit), ((Str.ofString "_law_octets"), NameKind.globalImplicit), ((Str.ofString "b64encode"), NameKind.globalImplicit), ((Str.ofString "type"), NameKind.globalImplicit), ((Str.ofString "bytes"), NameKind.globalImplicit), ((Str.ofString "_law_text"), NameKind.globalImplicit), ((Str.ofString "sorted"), NameKind.globalImplicit), ((Str.ofString "min"), NameKind.globalImplicit), ((Str.ofString "_law_piece"), NameKind.globalImplicit), ((Str.ofString "unorderable_list_difference"), NameKind.globalImplicit), ((Str.ofString "_levenshtein_distance"), NameKind.globalImplicit), ((Str.ofString "b64decode"), NameKind.globalImplicit)])))))))))))) Bool.false Bool.false [((Str.ofString "fast"), (Const.str (Str.ofString "script"))), ((Str.ofString "fast"), (Const.str (Str.ofString "start"))), ((Str.ofString "fast"), (Const.str (Str.ofString "k"))), ((Str.ofString "fast"), (Const.str (Str.ofString "draws"))), ((Str.ofString "fast"), (Const.str (Str.ofString "kinds"))), ((Str.ofString "fast"), (Const.str (Str.ofString "figures"))), ((Str.ofString "fast"), (Const.str (Str.ofString "draw"))), ((Str.ofString "fast"), (Const.str (Str.ofString "small"))), ((Str.ofString "fast"), (Const.str (Str.ofString "kind"))), ((Str.ofString "fast"), (Const.str (Str.ofString "row"))), ((Str.ofString "fast"), (Const.str (Str.ofString "written"))), ((Str.ofString "fast"), (Const.str (Str.ofString "whole"))), ((Str.ofString "fast"), (Const.str (Str.ofString "places"))), ((Str.ofString "fast"), (Const.str (Str.ofString "place"))), ((Str.ofString "fast"), (Const.str (Str.ofString "pile"))), ((Str.ofString "fast"), (Const.str (Str.ofString "turn"))), ((Str.ofString "fast"), (Const.str (Str.ofString "here"))), ((Str.ofString "fast"), (Const.str (Str.ofString "text"))), ((Str.ofString "fast"), (Const.str (Str.ofString "piece"))), ((Str.ofString "fast"), (Const.str (Str.ofString "backwards"))), ((Str.ofString "fast"), (Const.str (Str.ofString "fars"))), ((Str.ofString "fast"), (Const.str (Str.ofString "far"))), ((Str.ofString "fast"), (Const.str (Str.ofString "nearest"))), ((Str.ofString "fast"), (Const.str (Str.ofString "step"))), ((Str.ofString "fast"), (Const.str (Str.ofString "first"))), ((Str.ofString "fast"), (Const.str (Str.ofString "second"))), ((Str.ofString "fast"), (Const.str (Str.ofString "told"))), ((Str.ofString "fast"), (Const.str (Str.ofString "lacks"))), ((Str.ofString "fast"), (Const.str (Str.ofString "comes"))), ((Str.ofString "fast"), (Const.str (Str.ofString "read")))]) 3 [] Value.none Value.none Value.none (Value.str (Str.ofString "law_qw0006_01") 355) none (Value.ref 153) Value.none 0)) (List.toArray [])))])))))))))))))))))))))))))))))))))))))))))))))))))))))))))))))))))))))
noncomputable def hd.view_39 : Program :=
  letI c0 : Stmt := Stmt.FunctionDef _ _ _ _ _ _ _ _ _ _
  haveI : cell 0 = c0 := rfl
  letI c2 : Stmt := Stmt.Assign _ _ _
  haveI : cell 2 = c2 := rfl
  letI c3 : Stmt := Stmt.Assign _ _ _
  haveI : cell 3 = c3 := rfl
  letI c4 : Stmt := Stmt.Assign _ _ _
  haveI : cell 4 = c4 := rfl
  letI c5 : Stmt := Stmt.FunctionDef _ _ _ _ _ _ _ _ _ _
  haveI : cell 5 = c5 := rfl
  letI c6 : Stmt := Stmt.FunctionDef _ _ _ _ _ _ _ _ _ _
  haveI : cell 6 = c6 := rfl
  letI c8 : Stmt := Stmt.Assign _ _ _
  haveI : cell 8 = c8 := rfl
  letI c9 : Stmt := Stmt.FunctionDef _ _ _ _ _ _ _ _ _ _
  haveI : cell 9 = c9 := rfl
  letI c11 : Stmt := Stmt.ClassDef _ _ _ _ _ _ _ _ _ _ _
  haveI : cell 11 = c11 := rfl
  letI c12 : Stmt := Stmt.FunctionDef _ _ _ _ _ _ _ _ _ _
  haveI : cell 12 = c12 := rfl
  letI c13 : Stmt := Stmt.FunctionDef _ _ _ _ _ _ _ _ _ _
  haveI : cell 13 = c13 := rfl
  letI c14 : Stmt := Stmt.FunctionDef _ _ _ _ _ _ _ _ _ _
  haveI : cell 14 = c14 := rfl
  letI c15 : Stmt := Stmt.Assign _ _ _
  haveI : cell 15 = c15 := rfl
  letI c16 : Stmt := Stmt.FunctionDef _ _ _ _ _ _ _ _ _ _
  haveI : cell 16 = c16 := rfl
  letI c23 : Stmt := Stmt.FunctionDef _ _ _ _ _ _ _ _ _ _
  haveI : cell 23 = c23 := rfl
  letI c25 : Stmt := Stmt.FunctionDef _ _ _ _ _ _ _ _ _ _
  haveI : cell 25 = c25 := rfl
  letI c26 : Stmt := Stmt.FunctionDef _ _ _ _ _ _ _ _ _ _
  haveI : cell 26 = c26 := rfl
  letI c27 : Stmt := Stmt.FunctionDef _ _ _ _ _ _ _ _ _ _
  haveI : cell 27 = c27 := rfl
  letI c28 : Stmt := Stmt.FunctionDef _ _ _ _ _ _ _ _ _ _
  haveI : cell 28 = c28 := rfl
  letI c29 : Stmt := Stmt.FunctionDef _ _ _ _ _ _ _ _ _ _
  haveI : cell 29 = c29 := rfl
  { PySem.Challenge.rw_qw0006_01.row.toRowW.prog with main := { (PySem.Challenge.rw_qw0006_01.row.toRowW.prog).main with body := [c0, c2, c3, c4, c5, c6, c8, c9, c11, c12, c13, c14, c15, c16, c23, c25, c26, c27, c28, c29] } }
theorem said : PySem.Challenge.rw_qw0006_01.wellSaid = true := by
  delta OpenLaw.wellSaid
  repeat' (first | (with_reducible refine look_both ?_ ?_) | (delta OpenRow.wellSaid) | (delta OpenRow.partSaid) | (delta looksOpen))
  all_goals as_aux_lemma => ((try rewrite [Fast.te8377067652309620493]); (try rewrite [Fast.te17119622794617984870]); (try rewrite [Fast.te8326940854005059898]); (try rewrite [Fast.te8179353310426384613]); (try rewrite [Fast.te16286561074155671207]); (try rewrite [Fast.te5923862056798008813]); (try rewrite [Fast.te18344453789297297638]); (try rewrite [Fast.te13343964577679436407]); (try rewrite [Fast.te6984425678791042302]); (try rewrite [Fast.te17868728402115742887]); (try rewrite [Fast.named_eq]); kernel_rfl)
theorem left_boot {p q : Program} {loose : List Str} {Xt : Shared → Bool} {α : Type} {Yf : Shared → α} {Ya : World → α} {N : Nat} {g0 : Bool} {H₀ : Params → Heap} {gs₀ : Array GenState} {d₀ : Drawn} {k₀ : Nat}
    (o : ∀ w : World, (fencedOpening treeTable p w N).map (fun s => (s.heap, s.gens, s.drawn, s.toks)) = some (H₀ w.params, gs₀, d₀, k₀))
    (r : ∀ (w : World) (os : OsState), (topFrom treeTable p w N ⟨H₀ w.params, gs₀, d₀, k₀, os⟩).map (fun s => (openSeen q loose (importedModules p.main.body) Xt g0 s, Yf s)) = some (openGood q loose, Ya w)) :
    LeftO p q loose Xt Yf Ya N g0 := fun w => by
  have e := o w
  unfold openEnds
  generalize fencedOpening treeTable p w N = x at e ⊢
  cases x with
  | none => cases e
  | some s =>
    have e2 := Option.some.inj e
    cases s with
    | mk h g d k os =>
      injection e2 with e3 e4
      injection e4 with e5 e6
      injection e6 with e7 e8
      subst e3 e5 e7 e8
      exact r w os
theorem left_run (w : World) (os : OsState) : (topFrom treeTable PySem.Challenge.rw_qw0006_01.row.toRowW.prog w 1856 ⟨boot_heap w.params, Array.mk [], boot_drawn, boot_toks, os⟩).map (fun s => (openSeen hd.view_39 [Str.ofString "bytes_types", Str.ofString "a2b_base64", Str.ofString "b2a_base64", Str.ofString "b64encode", Str.ofString "b64decode"] (importedModules PySem.Challenge.rw_qw0006_01.row.toRowW.prog.main.body) (fun s => xlAt hd.view_39 [] s && recOk PySem.Challenge.rw_qw0006_01.row.records s) true s, Hook.obs (kHook hd.heap_39 [nat_lit 2, nat_lit 3, nat_lit 15, nat_lit 17, nat_lit 18, nat_lit 20, nat_lit 21, nat_lit 22, nat_lit 24, nat_lit 25, nat_lit 27, nat_lit 28, nat_lit 29, nat_lit 31, nat_lit 32, nat_lit 34, nat_lit 35, nat_lit 36, nat_lit 37, nat_lit 39, nat_lit 40, nat_lit 42, nat_lit 43, nat_lit 44, nat_lit 51, nat_lit 52, nat_lit 53, nat_lit 54, nat_lit 57, nat_lit 59, nat_lit 60, nat_lit 62, nat_lit 63, nat_lit 64, nat_lit 66, nat_lit 67, nat_lit 69, nat_lit 70, nat_lit 71, nat_lit 73, nat_lit 74, nat_lit 76, nat_lit 77, nat_lit 78, nat_lit 80, nat_lit 81, nat_lit 83, nat_lit 84, nat_lit 85, nat_lit 86, nat_lit 88, nat_lit 89, nat_lit 91, nat_lit 92, nat_lit 93, nat_lit 94, nat_lit 96, nat_lit 97, nat_lit 99, nat_lit 100, nat_lit 101, nat_lit 102, nat_lit 104, nat_lit 105, nat_lit 107, nat_lit 108, nat_lit 109, nat_lit 110, nat_lit 112, nat_lit 113, nat_lit 115, nat_lit 116, nat_lit 117, nat_lit 119, nat_lit 120, nat_lit 122, nat_lit 123, nat_lit 124, nat_lit 127, nat_lit 128, nat_lit 129, nat_lit 131, nat_lit 132, nat_lit 134, nat_lit 135, nat_lit 136, nat_lit 138, nat_lit 139, nat_lit 141, nat_lit 142, nat_lit 143, nat_lit 145, nat_lit 146, nat_lit 148, nat_lit 149, nat_lit 150, nat_lit 153, nat_lit 154] (fun _ => by kernel_rfl)) s)) = some (openGood hd.view_39 [Str.ofString "bytes_types", Str.ofString "a2b_base64", Str.ofString "b2a_base64", Str.ofString "b64encode", Str.ofString "b64decode"], Hook.val (kHook hd.heap_39 [nat_lit 2, nat_lit 3, nat_lit 15, nat_lit 17, nat_lit 18, nat_lit 20, nat_lit 21, nat_lit 22, nat_lit 24, nat_lit 25, nat_lit 27, nat_lit 28, nat_lit 29, nat_lit 31, nat_lit 32, nat_lit 34, nat_lit 35, nat_lit 36, nat_lit 37, nat_lit 39, nat_lit 40, nat_lit 42, nat_lit 43, nat_lit 44, nat_lit 51, nat_lit 52, nat_lit 53, nat_lit 54, nat_lit 57, nat_lit 59, nat_lit 60, nat_lit 62, nat_lit 63, nat_lit 64, nat_lit 66, nat_lit 67, nat_lit 69, nat_lit 70, nat_lit 71, nat_lit 73, nat_lit 74, nat_lit 76, nat_lit 77, nat_lit 78, nat_lit 80, nat_lit 81, nat_lit 83, nat_lit 84, nat_lit 85, nat_lit 86, nat_lit 88, nat_lit 89, nat_lit 91, nat_lit 92, nat_lit 93, nat_lit 94, nat_lit 96, nat_lit 97, nat_lit 99, nat_lit 100, nat_lit 101, nat_lit 102, nat_lit 104, nat_lit 105, nat_lit 107, nat_lit 108, nat_lit 109, nat_lit 110, nat_lit 112, nat_lit 113, nat_lit 115, nat_lit 116, nat_lit 117, nat_lit 119, nat_lit 120, nat_lit 122, nat_lit 123, nat_lit 124, nat_lit 127, nat_lit 128, nat_lit 129, nat_lit 131, nat_lit 132, nat_lit 134, nat_lit 135, nat_lit 136, nat_lit 138, nat_lit 139, nat_lit 141, nat_lit 142, nat_lit 143, nat_lit 145, nat_lit 146, nat_lit 148, nat_lit 149, nat_lit 150, nat_lit 153, nat_lit 154] (fun _ => by kernel_rfl)) w) := by
  delta topFrom
  rewrite [Fast.te14364793385576792824, Fast.te4187177175401517315, Fast.te5923862056798008813, Fast.te14082659384304107361]
  kernel_rfl
theorem left_open : opening PySem.Challenge.rw_qw0006_01.row.toRowW.prog = plainProg PySem.Challenge.rw_qw0006_01.row.toRowW.prog.main.scope.names := by kernel_rfl
theorem left_fence (s : Shared) : fenceModules? PySem.Challenge.rw_qw0006_01.row.toRowW.prog s = some s := by kernel_rfl
theorem hd {d : DefRec} {kwd : List (Str × PySem.Expr)} (hdef : defOf hd.view_39 PySem.Challenge.rw_qw0006_01.row.name = some (d, kwd)) (hp : PySem.Challenge.rw_qw0006_01.row.prog.theDef PySem.Challenge.rw_qw0006_01.row.name = some (d.params, d.body, d.scope)) (hk : kwWritten? d.params.kwonlyargs d.params.kw_defaults = some kwd)
    (walk : WalkO hd.view_39 [Str.ofString "bytes_types", Str.ofString "a2b_base64", Str.ofString "b2a_base64", Str.ofString "b64encode", Str.ofString "b64decode"] (XL hd.view_39 []) (Hook.says (kHook hd.heap_39 [nat_lit 2, nat_lit 3, nat_lit 15, nat_lit 17, nat_lit 18, nat_lit 20, nat_lit 21, nat_lit 22, nat_lit 24, nat_lit 25, nat_lit 27, nat_lit 28, nat_lit 29, nat_lit 31, nat_lit 32, nat_lit 34, nat_lit 35, nat_lit 36, nat_lit 37, nat_lit 39, nat_lit 40, nat_lit 42, nat_lit 43, nat_lit 44, nat_lit 51, nat_lit 52, nat_lit 53, nat_lit 54, nat_lit 57, nat_lit 59, nat_lit 60, nat_lit 62, nat_lit 63, nat_lit 64, nat_lit 66, nat_lit 67, nat_lit 69, nat_lit 70, nat_lit 71, nat_lit 73, nat_lit 74, nat_lit 76, nat_lit 77, nat_lit 78, nat_lit 80, nat_lit 81, nat_lit 83, nat_lit 84, nat_lit 85, nat_lit 86, nat_lit 88, nat_lit 89, nat_lit 91, nat_lit 92, nat_lit 93, nat_lit 94, nat_lit 96, nat_lit 97, nat_lit 99, nat_lit 100, nat_lit 101, nat_lit 102, nat_lit 104, nat_lit 105, nat_lit 107, nat_lit 108, nat_lit 109, nat_lit 110, nat_lit 112, nat_lit 113, nat_lit 115, nat_lit 116, nat_lit 117, nat_lit 119, nat_lit 120, nat_lit 122, nat_lit 123, nat_lit 124, nat_lit 127, nat_lit 128, nat_lit 129, nat_lit 131, nat_lit 132, nat_lit 134, nat_lit 135, nat_lit 136, nat_lit 138, nat_lit 139, nat_lit 141, nat_lit 142, nat_lit 143, nat_lit 145, nat_lit 146, nat_lit 148, nat_lit 149, nat_lit 150, nat_lit 153, nat_lit 154] (fun _ => by kernel_rfl))) PySem.Challenge.rw_qw0006_01.row.toRowW d kwd fun f vs => PySem.call f vs) : PySem.Challenge.rw_qw0006_01.Holds :=
  holds_law said fun k1 => holds_open (left_boot (boot_open left_open (by decide) left_fence) left_run) (Hook.of (kHook hd.heap_39 [nat_lit 2, nat_lit 3, nat_lit 15, nat_lit 17, nat_lit 18, nat_lit 20, nat_lit 21, nat_lit 22, nat_lit 24, nat_lit 25, nat_lit 27, nat_lit 28, nat_lit 29, nat_lit 31, nat_lit 32, nat_lit 34, nat_lit 35, nat_lit 36, nat_lit 37, nat_lit 39, nat_lit 40, nat_lit 42, nat_lit 43, nat_lit 44, nat_lit 51, nat_lit 52, nat_lit 53, nat_lit 54, nat_lit 57, nat_lit 59, nat_lit 60, nat_lit 62, nat_lit 63, nat_lit 64, nat_lit 66, nat_lit 67, nat_lit 69, nat_lit 70, nat_lit 71, nat_lit 73, nat_lit 74, nat_lit 76, nat_lit 77, nat_lit 78, nat_lit 80, nat_lit 81, nat_lit 83, nat_lit 84, nat_lit 85, nat_lit 86, nat_lit 88, nat_lit 89, nat_lit 91, nat_lit 92, nat_lit 93, nat_lit 94, nat_lit 96, nat_lit 97, nat_lit 99, nat_lit 100, nat_lit 101, nat_lit 102, nat_lit 104, nat_lit 105, nat_lit 107, nat_lit 108, nat_lit 109, nat_lit 110, nat_lit 112, nat_lit 113, nat_lit 115, nat_lit 116, nat_lit 117, nat_lit 119, nat_lit 120, nat_lit 122, nat_lit 123, nat_lit 124, nat_lit 127, nat_lit 128, nat_lit 129, nat_lit 131, nat_lit 132, nat_lit 134, nat_lit 135, nat_lit 136, nat_lit 138, nat_lit 139, nat_lit 141, nat_lit 142, nat_lit 143, nat_lit 145, nat_lit 146, nat_lit 148, nat_lit 149, nat_lit 150, nat_lit 153, nat_lit 154] (fun _ => by kernel_rfl))) (Hook.keeps (kHook hd.heap_39 [nat_lit 2, nat_lit 3, nat_lit 15, nat_lit 17, nat_lit 18, nat_lit 20, nat_lit 21, nat_lit 22, nat_lit 24, nat_lit 25, nat_lit 27, nat_lit 28, nat_lit 29, nat_lit 31, nat_lit 32, nat_lit 34, nat_lit 35, nat_lit 36, nat_lit 37, nat_lit 39, nat_lit 40, nat_lit 42, nat_lit 43, nat_lit 44, nat_lit 51, nat_lit 52, nat_lit 53, nat_lit 54, nat_lit 57, nat_lit 59, nat_lit 60, nat_lit 62, nat_lit 63, nat_lit 64, nat_lit 66, nat_lit 67, nat_lit 69, nat_lit 70, nat_lit 71, nat_lit 73, nat_lit 74, nat_lit 76, nat_lit 77, nat_lit 78, nat_lit 80, nat_lit 81, nat_lit 83, nat_lit 84, nat_lit 85, nat_lit 86, nat_lit 88, nat_lit 89, nat_lit 91, nat_lit 92, nat_lit 93, nat_lit 94, nat_lit 96, nat_lit 97, nat_lit 99, nat_lit 100, nat_lit 101, nat_lit 102, nat_lit 104, nat_lit 105, nat_lit 107, nat_lit 108, nat_lit 109, nat_lit 110, nat_lit 112, nat_lit 113, nat_lit 115, nat_lit 116, nat_lit 117, nat_lit 119, nat_lit 120, nat_lit 122, nat_lit 123, nat_lit 124, nat_lit 127, nat_lit 128, nat_lit 129, nat_lit 131, nat_lit 132, nat_lit 134, nat_lit 135, nat_lit 136, nat_lit 138, nat_lit 139, nat_lit 141, nat_lit 142, nat_lit 143, nat_lit 145, nat_lit 146, nat_lit 148, nat_lit 149, nat_lit 150, nat_lit 153, nat_lit 154] (fun _ => by kernel_rfl))) (fun s e => xl_of s (Bool.and_eq_true_iff.mp e).1) XL.keeps hdef hp hk (fun s e => recFacts_of (Bool.and_eq_true_iff.mp e).2) (by rfl) k1 (by decide +kernel) ⟨rfl, rfl, rfl, rfl, rfl, by decide +kernel⟩ ⟨[WData.list []], by decide +kernel, by decide +kernel⟩ walk
end
theorem fill_all : PySem.Challenge.rw_qw0006_01.most = PySem.Challenge.rw_qw0006_01.most ∧ hd.heap_39 = hd.heap_39 := by
  w_top off
  k_fill
  exact ⟨rfl, rfl⟩
local macro_rules | `(tactic| walk_at "1 step") => `(tactic| first | (k_unfold; (try dsimp only)) | (k_end; wrow_close) | walk1 | (dsimp only; walk1) | (leave1; walk_say "STEP leave1"; try dsimp only) | fail "no step")
local macro_rules | `(tactic| k_all) => `(tactic| assumption)
local macro_rules | `(tactic| walk_at "1 enter") => `(tactic| (k_dflt (refine' code_def ?k1 ?k2 ?k3 ?k4 ?k5 ?kA ?kF ?kK ?k6 ?k7 ?k8 ?k9 ?kB ?_ ?c2 ?c3 ?c4 ?c5; (case kA => exact rfl); (case kF => exact rfl); (case kK => first | exact rfl | assumption); (case k1 => k_asm); (case k2 => k_asm); (case k3 => k_asm); (case k4 => k_asm); (case k5 => k_asm); (case k6 => k_is); (case k7 => k_is); (case k8 => ktr_room); (case k9 => first | exact BindsTo.of_eq rfl | exact binds_K (by k_in) rfl (by k_is) rfl rfl rfl); (case c5 => decide); (case kB => exact locs rfl); (case c2 => exact rfl); (case c3 => exact rfl); (case c4 => exact rfl); k_whole); intro g' L' h' FG' F' N' B' X' T'; (try dsimp only); (try k_lift B'); (try k_fold)))
section
section
open PySem.StrLaws PySem.Builtin PySem.Builtin.Str
/-- a text by its signs -/
noncomputable def S (l : List Nat) : PySem.Str := ⟨l.toArray⟩
theorem S_length (l : List Nat) : (S l).length = l.length := by simp [S, PySem.Str.length]
theorem S_inj {l r : List Nat} (h : S l = S r) : l = r := by
  have := congrArg (fun x : PySem.Str => x.cps.toList) h
  simpa [S] using this
theorem S_beq (l r : List Nat) : (S l == S r) = decide (l = r) := by
  by_cases h : l = r
  · subst h; simp
  · have : S l ≠ S r := fun e => h (S_inj e)
    simp [h, this]
theorem S_of (x : PySem.Str) : x = S x.cps.toList := by cases x; simp [S]

theorem slice_eq (x : PySem.Str) (l u : Option Int) : Txt.slice x l u = sliceText x l u := rfl
theorem sl_from {l : List Nat} {k : Int} (h0 : 0 ≤ k) (h1 : k ≤ l.length) : Txt.slice (S l) (some k) none = S (l.drop k.toNat) := by
  rw [slice_eq, sliceText_from (by simp [S]; omega)]
  simp only [S]
  congr 1
  rw [List.take_of_length_le]
  simp; omega
theorem sl_to {l : List Nat} {k : Int} (h0 : 0 ≤ k) (h1 : k ≤ l.length) : Txt.slice (S l) none (some k) = S (l.take k.toNat) := by
  rw [slice_eq, sliceText_to (by simp [S]; omega)]
  simp [S]
theorem sl_ss {l : List Nat} {i j : Int} (h0 : 0 ≤ i) (h1 : i ≤ j) (h2 : j ≤ l.length) : Txt.slice (S l) (some i) (some j) = S ((l.drop i.toNat).take (j - i).toNat) := by
  rw [slice_eq, sliceText_plain (by simp [S]; omega)]
  simp [S]
theorem sl_nn {l : List Nat} : Txt.slice (S l) none none = S l := by
  have : Txt.slice (S l) none none = Txt.slice (S l) (some 0) none := by
    rw [slice_eq, slice_eq]; unfold sliceText; rw [sliceIdx_none_lo]
  rw [this, sl_from (by omega) (by omega)]; simp
theorem sl_neg {l : List Nat} {k : Int} (h0 : k < 0) (h1 : -(l.length : Int) ≤ k) : Txt.slice (S l) none (some k) = S (l.take (l.length + k).toNat) := by
  have e : Txt.slice (S l) none (some k) = Txt.slice (S l) none (some ((l.length : Int) + k)) := by
    rw [slice_eq, slice_eq]
    unfold sliceText
    have : strSliceIndices none (some k) 1 (S l).length = strSliceIndices none (some ((l.length : Int) + k)) 1 (S l).length := by
      rw [S_length]
      have a : ¬ ((l.length : Int) + k < 0) := by omega
      simp only [strSliceIndices, h0, a, if_true, if_false]
      rw [Int.add_comm]
    rw [this]
  rw [e, sl_to (by omega) (by omega)]
theorem it_at {l : List Nat} {k : Int} (h0 : 0 ≤ k) (h1 : k < l.length) : Txt.item (S l) k = S [l.getD k.toNat 0] := by
  rw [PySem.W.item_meets (by rw [S_length]; exact ⟨h0, h1⟩)]
  simp [S]
theorem it_neg {l : List Nat} {k : Int} (h0 : k < 0) (h1 : -(l.length : Int) ≤ k) : Txt.item (S l) k = S [l.getD (l.length + k).toNat 0] := by
  have := PyProof.Rows.item_closes_neg (x := S l) (i := k) (j := k + (S l).length) h0 (by rw [S_length]; exact h1) rfl
  rw [eq_of_beq this, S_length]
  simp [S, Int.add_comm]

noncomputable def cpl {α : Type} [DecidableEq α] : List α → List α → Nat
  | x :: xs, y :: ys => if x = y then cpl xs ys + 1 else 0
  | _, _ => 0
noncomputable def inn {α : Type} (cost : α → α → Int) (c : α) : List α → List Int → Int → Int → Int → List Int × Int × Int
  | x :: xs, r :: rs, d, res, mn =>
    let v := min (min res r + 2) (d + cost c x)
    let o := inn cost c xs rs r v (if v < mn then v else mn)
    (v :: o.1, o.2.1, o.2.2)
  | _, _, _, res, mn => ([], res, mn)
noncomputable def out {α : Type} (cost : α → α → Int) (a : List α) (mx : Int) : List α → Int → List Int → Int → Int
  | c :: bs, i, row, _ =>
    let o := inn cost c a row (2 * i) (2 * i) 9223372036854775807
    if mx < o.2.2 then mx + 1 else out cost a mx bs (i + 1) o.1 o.2.1
  | [], _, _, res => res
noncomputable def row0 (n : Nat) : List Int := (List.range n).map fun (i : Nat) => 2 + 2 * (i : Int)
noncomputable def core {α : Type} (cost : α → α → Int) (a b : List α) (mx : Int) : Int :=
  if a.length = 0 ∨ b.length = 0 then 2 * ((a.length : Int) + b.length) else out cost a mx b 0 (row0 a.length) 0
noncomputable def levL {α : Type} [DecidableEq α] (cost : α → α → Int) (a b : List α) (mx : Int) : Int :=
  if a = b then 0 else
    let a1 := a.drop (cpl a b)
    let b1 := b.drop (cpl a b)
    let j := cpl a1.reverse b1.reverse
    core cost (a1.take (a1.length - j)) (b1.take (b1.length - j)) mx
section
variable {α β : Type} [DecidableEq α] [DecidableEq β] {f : α → β}
theorem map_inj (hf : ∀ x y, f x = f y → x = y) : ∀ {a b : List α}, a.map f = b.map f → a = b
  | [], [], _ => rfl
  | [], _ :: _, h => by simp at h
  | _ :: _, [], h => by simp at h
  | x :: xs, y :: ys, h => by
    simp only [List.map_cons, List.cons.injEq] at h
    rw [hf _ _ h.1, map_inj hf h.2]
theorem cpl_map (hf : ∀ x y, f x = f y → x = y) : ∀ (a b : List α), cpl (a.map f) (b.map f) = cpl a b
  | [], _ => by simp [cpl]
  | _ :: _, [] => by simp [cpl]
  | x :: xs, y :: ys => by
    simp only [List.map_cons, cpl]
    by_cases h : x = y
    · simp [h, cpl_map hf xs ys]
    · have : f x ≠ f y := fun e => h (hf _ _ e)
      simp [h, this]
variable {cost : α → α → Int} {cost' : β → β → Int}
theorem inn_map (hc : ∀ x y, cost' (f x) (f y) = cost x y) (c : α) : ∀ (a : List α) (r : List Int) (d res mn : Int), inn cost' (f c) (a.map f) r d res mn = inn cost c a r d res mn
  | [], _, _, _, _ => by simp [inn]
  | _ :: _, [], _, _, _ => by simp [inn]
  | x :: xs, r :: rs, d, res, mn => by simp only [List.map_cons, inn, hc, inn_map hc c xs rs]
theorem out_map (hc : ∀ x y, cost' (f x) (f y) = cost x y) (a : List α) (mx : Int) : ∀ (b : List α) (i : Int) (row : List Int) (res : Int), out cost' (a.map f) mx (b.map f) i row res = out cost a mx b i row res
  | [], _, _, _ => by simp [out]
  | c :: bs, i, row, res => by simp only [List.map_cons, out, inn_map hc, out_map hc a mx bs]
theorem levL_map (hf : ∀ x y, f x = f y → x = y) (hc : ∀ x y, cost' (f x) (f y) = cost x y) (a b : List α) (mx : Int) : levL cost' (a.map f) (b.map f) mx = levL cost a b mx := by
  unfold levL
  by_cases h : a = b
  · simp [h]
  · have h' : a.map f ≠ b.map f := fun e => h (map_inj hf e)
    simp only [h, h', if_false]
    rw [cpl_map hf, ← List.map_drop, ← List.map_drop, ← List.map_reverse, ← List.map_reverse, cpl_map hf]
    simp only [List.length_map, ← List.map_take]
    unfold core
    simp only [List.length_map, out_map hc]
end

/-- the twelve signs, and ! and ? behind them, by their places -/
noncomputable def cI (x y : Fin 14) : Int := if x = y then 0 else 2
noncomputable def pieceI (p : Nat) : List (Fin 14) := ((List.finRange 14).drop p).take 6
noncomputable def pieceB (p : Nat) (b : Bool) : List (Fin 14) := if b then (pieceI p).reverse else pieceI p
noncomputable def farI (h p : Int) (b : Bool) : Int := if b then (if (p - h) % 2 = 1 then 10 else 12) else min 12 (4 * (if p - h < 0 then -(p - h) else p - h))
theorem lev_all : ∀ h : Fin 7, ∀ p : Fin 7, ∀ b : Bool, levL cI (pieceI h) (pieceB p b) 12 = farI (h.val : Int) (p.val : Int) b := by decide +kernel
theorem lev_zero : ∀ h : Fin 7, ∀ p : Fin 7, (p.val = h.val + 1 ∨ p.val = h.val + 2) → levL cI (pieceI h) (pieceI p) 0 = 1 := by decide +kernel
theorem lev_more : ∀ p : Fin 7, (p.val = 1 ∨ p.val = 2) → levL cI (pieceI 0 ++ [12]) (pieceI p ++ [13]) 14 = 4 * (p.val : Int) + 2 := by decide +kernel

noncomputable def uldL {α : Type} [DecidableEq α] : List α → List α → List α → List α × List α
  | [], act, ms => (ms, act)
  | x :: xs, act, ms => if x ∈ act then uldL xs (act.erase x) ms else uldL xs act (ms ++ [x])
section
variable {α β : Type} [DecidableEq α] [DecidableEq β] {f : α → β}
theorem mem_map_inj (hf : ∀ x y, f x = f y → x = y) (x : α) (a : List α) : f x ∈ a.map f ↔ x ∈ a := by
  constructor
  · intro h
    obtain ⟨y, hy, e⟩ := List.mem_map.mp h
    rw [← hf _ _ e]; exact hy
  · exact List.mem_map_of_mem
theorem erase_map (hf : ∀ x y, f x = f y → x = y) (x : α) : ∀ a : List α, (a.map f).erase (f x) = (a.erase x).map f
  | [] => by simp
  | y :: ys => by
    simp only [List.map_cons, List.erase_cons]
    by_cases h : y = x
    · simp [h]
    · have : f y ≠ f x := fun e => h (hf _ _ e)
      simp [h, this, erase_map hf x ys]
theorem uldL_map (hf : ∀ x y, f x = f y → x = y) : ∀ (a b ms : List α), uldL (a.map f) (b.map f) (ms.map f) = ((uldL a b ms).1.map f, (uldL a b ms).2.map f)
  | [], b, ms => by simp [uldL]
  | x :: xs, b, ms => by
    simp only [List.map_cons, uldL, mem_map_inj hf, erase_map hf]
    by_cases h : x ∈ b
    · simp only [h, if_true]; exact uldL_map hf xs _ _
    · simp only [h, if_false]
      have := uldL_map hf xs b (ms ++ [x])
      simpa using this
end
theorem uld_one : ∀ h : Fin 7, ∀ p : Fin 7, (p.val = h.val + 1 ∨ p.val = h.val + 2) →
    uldL (pieceI h).reverse (pieceI p) [] = (((pieceI h).take (p.val - h.val)).reverse, (pieceI p).drop (6 - (p.val - h.val))) := by decide +kernel
theorem uld_two : ∀ h : Fin 7, ∀ p : Fin 7, (p.val = h.val + 1 ∨ p.val = h.val + 2) →
    uldL (pieceI h ++ pieceI h).reverse (pieceI p) [] = (((pieceI h).take (p.val - h.val)).reverse ++ (pieceI h).reverse, (pieceI p).drop (6 - (p.val - h.val))) := by decide +kernel
end
end
section
noncomputable abbrev loo : List Str := looseW hd.view_39 [Str.ofString "bytes_types", Str.ofString "a2b_base64", Str.ofString "b2a_base64", Str.ofString "b64encode", Str.ofString "b64decode"]
noncomputable abbrev PG := PySem.Challenge.rw_qw0006_01.row.prog
/-- a def's contract: called with the values vs under any frame, it hands back R (up to a token), and the frame and the ledger stand -/
noncomputable abbrev Ctr (k : Nat) (w : World) (mean : ExcName → Option Value) (mg mb : Str → Option Value) (f : Addr) (news : CbLed) (vs : List Value) (R : Tok → Value) : Prop :=
  ∀ (dp un : Nat) (gd : Option (List Code)) (cn : Str) (cs : Scope) (a : Addr) (ccd : Value) (cl : List (Str × Addr)) (outer : List Env) (A₀ : Around) (base h₀ : Heap) (L : Addr) (m : Str → Option Value) (s : Shared) (Q E : Value → Shared → Prop),
    Below A₀ base outer h₀ → Fr h₀ L s.heap m → (hd.heap_39 w.params).In h₀ → News h₀ L s.heap news → Top hd.view_39 loo mean mg mb h₀ → cs.kind = .function →
    dp + k < recursionLimit → un + 20 * k < cLine → (∀ (t : Tok) (h' : Heap) (tk' : Nat), Fr h₀ L h' m → News h₀ L h' news → Q (R t) { s with heap := h', toks := tk' }) →
      wpAny (model PySem.Challenge.rw_qw0006_01.row.prog w) (ktrTop dp un gd cn cs L a ccd cl outer) (call (.ref f) vs) Q E s
end
section
noncomputable def TEnd (h₀ : Heap) (L : Addr) (s : Shared) (m : Str → Option Value) (led : List (Addr × Obj)) (T : Bool) (b : Bool) (s₂ : Shared) : Prop :=
  ∃ h' tk', s₂ = { s with heap := h', toks := tk' } ∧ b = T ∧ Fr h₀ L h' m ∧ News h₀ L h' led
theorem TEnd.mk {h₀ : Heap} {L : Addr} {s : Shared} {m : Str → Option Value} {led : List (Addr × Obj)} {T b : Bool} {h' : Heap} {tk' : Nat} (F : Fr h₀ L h' m) (N : News h₀ L h' led) (e : b = T) :
    TEnd h₀ L s m led T b { s with heap := h', toks := tk' } := ⟨h', tk', rfl, e, F, N⟩
noncomputable def WEnd {σ : Type} (h₀ : Heap) (L : Addr) (s : Shared) (Led : σ → List (Addr × Obj)) (ps : σ → List (Str × Value)) (P : σ → Prop) (μ : σ → Nat) (c : σ) (s₂ : Shared) : Prop :=
  ∃ (c' : σ) (h' : Heap) (tk : Nat) (m' : Str → Option Value) (news' : List (Addr × Obj)), s₂ = { s with heap := h', toks := tk } ∧ Fr h₀ L h' m' ∧ News h₀ L h' news' ∧ (∀ p ∈ Led c', p ∈ news') ∧ (∀ p ∈ ps c', m' p.1 = some p.2) ∧ P c' ∧ μ c' < μ c
theorem WEnd.mk {σ : Type} {h₀ : Heap} {L : Addr} {s : Shared} {Led : σ → List (Addr × Obj)} {ps : σ → List (Str × Value)} {P : σ → Prop} {μ : σ → Nat} {c : σ} {h' : Heap} {tk : Nat} {m' : Str → Option Value} {news' : List (Addr × Obj)} (c' : σ)
    (F : Fr h₀ L h' m') (N : News h₀ L h' news') (hn : ∀ p ∈ Led c', p ∈ news') (hk : ∀ p ∈ ps c', m' p.1 = some p.2) (hp : P c') (hm : μ c' < μ c) : WEnd h₀ L s Led ps P μ c { s with heap := h', toks := tk } :=
  ⟨c', h', tk, m', news', rfl, F, N, hn, hk, hp, hm⟩
noncomputable def WPost {σ : Type} (h₀ : Heap) (L : Addr) (s : Shared) (Led : σ → List (Addr × Obj)) (ps : σ → List (Str × Value)) (P : σ → Prop) (μ : σ → Nat) (Q : Flow → Shared → Prop) (c : σ) (f : Flow) (s₂ : Shared) : Prop :=
  match f with
  | .ret v => Q (.ret v) s₂
  | .brk => Q .next s₂
  | _ => WEnd h₀ L s Led ps P μ c s₂
theorem kstB_self {m : Str → Option Value} {ps : List (Str × Value)} (h : ∀ p ∈ ps, m p.1 = some p.2) : kstB m ps = m := by
  funext z
  exact kstB_eq h fun _ => rfl
section
variable {prog : Program} {w : World} {A : Around} {E : Value → Shared → Prop} {Q : Flow → Shared → Prop} {s : Shared} {env : Env} {h₀ : Heap} {L : Addr}

theorem wh {σ : Type} {test : Expr} {body : List Stmt} {pos : Pos} {m₀ : Str → Option Value} (Led : σ → List (Addr × Obj)) (ps : σ → List (Str × Value)) (P : σ → Prop) (μ : σ → Nat) (T : σ → Bool) (c₀ : σ)
    (F : Fr h₀ L s.heap m₀) (N : News h₀ L s.heap (Led c₀)) (hk : ∀ p ∈ ps c₀, m₀ p.1 = some p.2) (hp : P c₀)
    (htest : ∀ (c : σ) (u : Str → Option Value) h tk, P c → Fr h₀ L h (kstB u (ps c)) → News h₀ L h (Led c) →
      wpAny (model prog w) A (isTrue test env (eval test env)) (TEnd h₀ L s (kstB u (ps c)) (Led c) (T c)) E { s with heap := h, toks := tk })
    (hbody : ∀ (c : σ) (u : Str → Option Value) h tk, T c = true → P c → Fr h₀ L h (kstB u (ps c)) → News h₀ L h (Led c) →
      wpAny (model prog w) A (execs body env) (WPost h₀ L s Led ps P μ Q c) E { s with heap := h, toks := tk })
    (hdone : ∀ (c : σ) (u : Str → Option Value) h tk, T c = false → P c → Fr h₀ L h (kstB u (ps c)) → News h₀ L h (Led c) → Q .next { s with heap := h, toks := tk })
    (hE : PassesOwn (model prog w) A env E := by passes_own) :
    wpAny (model prog w) A (exec (.While test body [] pos) env) Q E s := by
  refine While_inv2 (fun n m nx => ∃ c : σ, nx = Led c ∧ μ c = n ∧ (∀ p ∈ ps c, m p.1 = some p.2) ∧ P c) F N ⟨c₀, rfl, rfl, hk, hp⟩ ?_ hE
  rintro n m₁ nx h tk F₁ N₁ ⟨c, rfl, rfl, h1, hp'⟩
  have F₂ : Fr h₀ L h (kstB m₁ (ps c)) := by rw [kstB_self h1]; exact F₁
  refine wpAny_mono (htest c m₁ h tk hp' F₂ N₁) ?_ (fun _ _ x => x)
  rintro b s₂ ⟨h', tk', rfl, rfl, F₃, N₃⟩
  cases hT : T c with
  | false => simp only [Bool.false_eq_true, if_false]; exact hdone c m₁ h' tk' hT hp' F₃ N₃
  | true =>
    simp only [if_true]
    refine wpAny_mono (hbody c m₁ h' tk' hT hp' F₃ N₃) (fun f s₃ q => ?_) fun _ _ x => x
    cases f with
    | ret v => exact q
    | brk => exact q
    | next =>
      obtain ⟨c', h', tk', m', news', rfl, F', N', hn, hk9, hp9, hm9⟩ := q
      exact ⟨h', tk', m', Led c', μ c', rfl, F', fun p hp => N' p (hn p hp), hm9, c', rfl, rfl, hk9, hp9⟩
    | cont =>
      obtain ⟨c', h', tk', m', news', rfl, F', N', hn, hk9, hp9, hm9⟩ := q
      exact ⟨h', tk', m', Led c', μ c', rfl, F', fun p hp => N' p (hn p hp), hm9, c', rfl, rfl, hk9, hp9⟩
end
section
variable {prog : Program} {w : World} {A : Around} {E : Value → Shared → Prop} {Q : Value → Shared → Prop} {s : Shared} {h₀ : Heap} {L r : Addr} {m : Str → Option Value} {news : List (Addr × Obj)}
theorem ints_row : ∀ (vs : List Value) (a : Int) (n : Nat), vs.length = n → (∀ (j : Nat) (v : Value), vs[j]? = some v → ∃ t, v = .int (a + j * 2) t) → IntsAre vs ((List.range n).map fun (i : Nat) => a + 2 * (i : Int))
  | [], a, n, h, _ => by
    have : n = 0 := by simpa using h.symm
    subst this; exact .nil
  | v :: vs, a, n, h, hv => by
    obtain ⟨n, rfl⟩ : ∃ k, n = k + 1 := ⟨vs.length, by simpa using h.symm⟩
    obtain ⟨t, rfl⟩ := hv 0 v rfl
    rw [List.range_succ_eq_map, List.map_cons, List.map_map]
    have e : (a + ((0 : Nat) : Int) * 2) = a + 2 * ((0 : Nat) : Int) := by omega
    rw [e]
    refine .cons _ t ?_
    have ih := ints_row vs (a + 2) n (by simpa using h) (fun j v hj => by
      obtain ⟨t, ht⟩ := hv (j + 1) v (by simpa using hj)
      exact ⟨t, by rw [ht]; congr 1; omega⟩)
    have e2 : ((fun (i : Nat) => a + 2 * (i : Int)) ∘ Nat.succ) = fun (i : Nat) => a + 2 + 2 * (i : Int) := by
      funext i; simp; omega
    rw [e2]; exact ih
theorem range2 (n : Nat) : Builtin.Range.rangeSize 2 (2 * ((n : Int) + 1)) 2 = (n : Int) := by
  unfold Builtin.Range.rangeSize
  simp only [show (2 : Int) > 0 by decide, if_true]
  split <;> omega
theorem fitsLong {i : Int} (h0 : -100000 ≤ i) (h1 : i ≤ 100000) : Builtin.Range.rangeFitsLong i = true := by
  unfold Builtin.Range.rangeFitsLong
  rw [Bool.and_eq_true, decide_eq_true_eq, decide_eq_true_eq]
  constructor <;> omega
theorem small2 (n : Nat) (hz : n ≤ 1000) : Builtin.Range.small 2 (2 * ((n : Int) + 1)) 2 = true := by
  unfold Builtin.Range.small
  rw [range2]
  rw [fitsLong (by omega) (by omega), fitsLong (by omega) (by omega), fitsLong (by omega) (by omega)]
  rw [if_pos (by decide), fitsLong (by omega) (by omega)]
  simp
theorem list_range2 {t₀ u₀ v₀ : Tok} {n : Nat} {b : Int} (hh : A.handled = none) (F : Fr h₀ L s.heap m) (N : News h₀ L s.heap news) (hr : IsRange s.heap r 2 b 2 t₀ u₀ v₀) (hb : b = 2 * ((n : Int) + 1)) (hz : n ≤ 1000)
    (h : ∀ D us c h' tk, Fr h₀ L h' m → News h₀ L h' ((D, listOf (List.toArray us) c) :: news) → (∀ p ∈ news, p.1 < D) → IntsAre us (row0 n) → Q (.ref D) { s with heap := h', toks := tk }) :
    wpAny (model prog w) A (call (.type "list") [.ref r]) Q E s := by
  subst hb
  refine call_list_range hh hr (small2 n hz) (range2 n) (by omega) fun h' tk acc c hk hD hI => ?_
  have hD' : h'.get? s.heap.objs.size = some (listOf (List.toArray acc.toList) c) := by
    rw [Array.toArray_toList]
    exact hD
  exact h _ acc.toList c h' tk (F.keeps hk) (news_pushed F N hk hD' rfl) (fun p hp => Heap.lt_size (N p hp).1) (ints_row _ _ _ (by rw [Array.length_toList]; exact hI.1) fun j v hj => hI.2 j v (by rw [← hj, Array.getElem?_toList]))
end
noncomputable def FJ {σ : Type} (Led : σ → List (Addr × Obj)) (ps : σ → List (Str × Value)) (P : Nat → σ → Prop) (i : Nat) (m : Str → Option Value) (nx : List (Addr × Obj)) : Prop :=
  ∃ c : σ, nx = Led c ∧ (∀ p ∈ ps c, m p.1 = some p.2) ∧ P i c
section
variable {prog : Program} {w : World} {A : Around} {E : Value → Shared → Prop} {s : Shared} {env : Env} {h₀ : Heap} {x : Str} {body : List Stmt} {Q : Flow → Shared → Prop}
theorem FEnd.mk {σ : Type} {Led : σ → List (Addr × Obj)} {ps : σ → List (Str × Value)} {P : Nat → σ → Prop} {i : Nat} (c : σ) {L : Addr} {m' : Str → Option Value} {own news' : List (Addr × Obj)} {adr : List Addr} {s₁ : Shared} {h' : Heap} {tk : Nat}
    (F : Fr h₀ L h' m') (N : News h₀ L h' news') (hn : ∀ p ∈ Led c, p ∈ news') (ho : ∀ p ∈ own, p ∈ news') (ha : (Led c).map (·.1) = adr) (hk : ∀ p ∈ ps c, m' p.1 = some p.2) (hp : P i c) :
    InvEndN h₀ L (FJ Led ps P i) own adr s₁ { s₁ with heap := h', toks := tk } :=
  InvEndN.intro F N ⟨c, rfl, hk, hp⟩ ha hn ho
theorem fr_off {L : Addr} {h : Heap} {m₁ : Str → Option Value} {v : Value} {ps : List (Str × Value)} (h1 : ∀ p ∈ ps, m₁ p.1 = some p.2) (F : Fr h₀ L h (fun y => if y = x then some v else m₁ y)) : Fr h₀ L h (fun y => if y = x then some v else kstB m₁ ps y) := by
  rw [kstB_self h1]; exact F
theorem frange {σ : Type} {r : Addr} {a₀ b₀ : Int} {t₀ u₀ v₀ : Tok} {n : Nat} {m₀ : Str → Option Value} (Led : σ → List (Addr × Obj)) (ps : σ → List (Str × Value)) (P : Nat → σ → Prop) (c₀ : σ)
    (hh : A.handled = none) (hr : IsRange s.heap r a₀ b₀ 1 t₀ u₀ v₀) (hsmall : Builtin.Range.small a₀ b₀ 1 = true) (hn : Builtin.Range.rangeSize a₀ b₀ 1 = (n : Int)) (F : Fr h₀ env.locals s.heap m₀) (N : News h₀ env.locals s.heap (Led c₀)) (hk : ∀ p ∈ ps c₀, m₀ p.1 = some p.2) (hp : P 0 c₀)
    (turn : ∀ (c : σ) (i : Nat) t (u : Str → Option Value) h tk own, i < n → OwnOff own ((Led c₀).map (·.1)) → P i c →
      Fr h₀ env.locals h (fun y => if y = x then some (.int (a₀ + (i : Int)) t) else kstB u (ps c) y) → News h₀ env.locals h (Led c ++ own) →
      wpAny (model prog w) A (execs body env) (InvPostN h₀ env.locals (FJ Led ps P (i + 1)) own ((Led c₀).map (·.1)) { s with heap := h, toks := tk } Q) E { s with heap := h, toks := tk })
    (done : ∀ (c : σ) (u : Str → Option Value) h tk, P n c → Fr h₀ env.locals h (kstB u (ps c)) → News h₀ env.locals h (Led c) → Q .next { s with heap := h, toks := tk }) :
    wpAny (model prog w) A (pyIter (.ref r)) (fun it s₂ => LoopAtV prog w A h₀ env x body Q E it s₂) E s := by
  refine wpAny_pyIter_range hr hsmall ?_
  have W : Walks prog w A s.heap.objs.size [s.heap.objs.size] [s.heap.objs.size] n (fun i v => i < n ∧ ∃ t, v = .int (a₀ + i * 1) t)
      (fun i h => IsRangeIter h s.heap.objs.size (a₀ + (i : Nat) * 1) ((n : Int) - (i : Nat)) 1) := (Walks.range hh _ a₀ 1 n).bound
  refine loop_invN (FJ Led ps P) W ?_ ?_ ?_ ?_ (by show IsRangeIter _ _ _ _ _; rw [hn]; simpa using Heap.get?_push_size _ rfl) (F.push _) (fun p hp => ⟨Heap.get?_push_of_some _ (N p hp).1, (N p hp).2⟩) ⟨c₀, rfl, hk, hp⟩ ?_ ?_
  · intro hm
    exact absurd F.ns.lt ((List.mem_singleton.mp hm) ▸ Nat.lt_irrefl _)
  · intro b hb
    rw [List.mem_singleton.mp hb]
    exact next_is_new F
  · intro p hp hI
    exact absurd (Heap.lt_size (N p hp).1) ((List.mem_singleton.mp hI) ▸ Nat.lt_irrefl _)
  · intro p hp hI
    exact absurd (Heap.lt_size (N p hp).1) ((List.mem_singleton.mp hI) ▸ Nat.lt_irrefl _)
  · rintro i v m₁ nx h tk own hi ⟨_, t, rfl⟩ _ hoff ⟨c, rfl, h1, hp'⟩ F₁ N₁
    have e1 : a₀ + (i : Int) * 1 = a₀ + (i : Int) := by omega
    rw [e1] at F₁
    exact turn c i t m₁ h tk own hi hoff hp' (fr_off h1 F₁) N₁
  · rintro m₁ nx h tk ⟨c, rfl, h1, hp'⟩ F₁ N₁
    exact done c m₁ h tk hp' (by rw [kstB_self h1]; exact F₁) N₁
end
end
section

noncomputable def bodyAt (i : Nat) : List Stmt := match PySem.Challenge.pw_qw0006_01.main.body[i]? with
  | some (.FunctionDef _ _ b _ _ _ _ _ _ _) => b
  | _ => []
noncomputable def scopeAt (i : Nat) : Scope := match PySem.Challenge.pw_qw0006_01.main.body[i]? with
  | some (.FunctionDef _ _ _ _ _ _ s _ _ _) => s
  | _ => default
noncomputable abbrev envLev (L : Addr) : Env := envOf (Str.ofString "_levenshtein_distance") (scopeAt 6) L 35 (Value.ref 34)

noncomputable def subst (a b : Str) : Int := if a = b then 0 else if Txt.lower a = Txt.lower b then 1 else 2
noncomputable def substN (c d : Nat) : Int := subst (S [c]) (S [d])
theorem c_subst (w : World) (mean : ExcName → Option Value) (mg mb : Str → Option Value) (news : CbLed) (a b : Str) (t1 t2 : Tok) (ha : a.length ≤ 1000) (hb : b.length ≤ 1000) :
    Ctr 2 w mean mg mb 28 news [Value.str a t1, Value.str b t2] (fun t => Value.int (subst a b) t) := by
  dsimp only [Ctr]
  intros
  rename_i hret
  refine wpAny_call ?_
  k_dflt cell_enter
  repeat' (first | (((with_reducible show wpAny _ _ (call (Value.ref 28) [Value.str _ _, Value.str _ _]) _ _ _); k_here; (with_reducible show wpAny _ _ (call (Value.ref 28) [Value.str _ _, Value.str _ _]) _ _ _); k_dflt (refine' c_subst _ _ _ _ _ _ _ _ _ ?h1 ?h2 _ _ _ _ _ _ _ _ _ _ _ _ _ _ _ _ _ ?kB ?kF ?kX ?kN ?kT ?kK ?kd ?ku ?kR; (case kB => k_asm); (case kF => k_asm); (case kX => k_asm); (case kN => k_asm); (case kT => k_asm); (case kK => first | exact rfl | assumption); (case kd => ktr_room); (case ku => ktr_units); (case h1 => omega); (case h2 => omega)); intro _ _ _ _ _; (try dsimp only); (try k_sweep))) | walk_at "1 step")
  all_goals (refine cb_retI hret ?_ (by k_asm) (by k_asm))
  all_goals (unfold subst; simp_all)
local macro_rules | `(tactic| walk_at "call ref") => `(tactic| (k_here; (with_reducible show wpAny _ _ (call (Value.ref 28) [Value.str _ _, Value.str _ _]) _ _ _); k_dflt (refine' c_subst _ _ _ _ _ _ _ _ _ ?h1 ?h2 _ _ _ _ _ _ _ _ _ _ _ _ _ _ _ _ _ ?kB ?kF ?kX ?kN ?kT ?kK ?kd ?ku ?kR; (case kB => k_asm); (case kF => k_asm); (case kX => k_asm); (case kN => k_asm); (case kT => k_asm); (case kK => first | exact rfl | assumption); (case kd => ktr_room); (case ku => ktr_units); (case h1 => omega); (case h2 => omega)); intro t9 h9 tk9 F9 N9; (try dsimp only); (try k_sweep)))
structure SI where
  d : Int
  td : Tok
  r : Int
  tr : Tok
  mn : Int
  tm : Tok
  vs : List Value
  cp : Nat
  row : List Int
noncomputable def forBody (s : Stmt) : List Stmt := match s with
  | .For _ _ b _ _ => b
  | _ => []
noncomputable def levFor : Stmt := ((bodyAt 6)[15]?).getD (.Pass ⟨0, 0, 0, 0⟩)
noncomputable def levIn : Stmt := ((forBody levFor)[3]?).getD (.Pass ⟨0, 0, 0, 0⟩)

theorem vmin (s x r : Int) : (if s < (if x < r then x else r) + 2 then s else (if x < r then x else r) + 2) = min (min r x + 2) s := by
  simp only [Int.min_def]
  repeat' split
  all_goals omega
theorem inn_step {cost : Nat → Nat → Int} {ch : Nat} {xa : List Nat} {row : List Int} {d r mn v mn' : Int} {i : Nat} (hi : i < xa.length) (hl : row.length = xa.length)
    (hv : v = min (min r (row.getD i 0) + 2) (d + cost ch (xa.getD i 0))) (hm : mn' = if v < mn then v else mn) :
    ((row.set i v).take (i + 1) ++ (inn cost ch (xa.drop (i + 1)) ((row.set i v).drop (i + 1)) (row.getD i 0) v mn').1, (inn cost ch (xa.drop (i + 1)) ((row.set i v).drop (i + 1)) (row.getD i 0) v mn').2)
      = (row.take i ++ (inn cost ch (xa.drop i) (row.drop i) d r mn).1, (inn cost ch (xa.drop i) (row.drop i) d r mn).2) := by
  have hr : i < row.length := by omega
  have e1 : (row.set i v).drop (i + 1) = row.drop (i + 1) := by rw [List.drop_set_of_lt (by omega)]
  have e2 : (row.set i v).take (i + 1) = row.take i ++ [v] := by
    rw [List.take_add_one]
    simp [hr, List.take_set_of_le]
  rw [e1, e2, List.drop_eq_getElem_cons hi, List.drop_eq_getElem_cons hr]
  have g1 : row.getD i 0 = row[i] := by simp [hr]
  have g2 : xa.getD i 0 = xa[i] := by simp [hi]
  rw [g1, g2] at hv
  rw [g1]
  simp only [inn, ← hv, ← hm, List.append_assoc, List.singleton_append]
theorem lev_inner (w : World) (mean : ExcName → Option Value) (mg mb : Str → Option Value) (rest : CbLed) (xa xb : List Nat) (ch : Nat) (mx bi d₀ : Int) (t1 t2 t3 t4 t5 t6 t7 t8 : Tok) (D : Addr) (vs : List Value) (cp : Nat) (row : List Int) (ha : xa.length ≤ 40) (hrow : row.length = xa.length) (hI : IntsAre vs row)
    (dp un : Nat) (gd : Option (List Code)) (cn : Str) (cs : Scope) (L₀ a₀ : Addr) (ccd : Value) (cl : List (Str × Addr)) (outer : List Env) (base h₀ : Heap) (L : Addr) (u : Str → Option Value) (s : Shared) (Q : Flow → Shared → Prop) (E : Value → Shared → Prop)
    (hdp : dp + 4 < recursionLimit) (hun : un + 80 < cLine) (B : Below (ktrTop dp un gd cn cs L₀ a₀ ccd cl outer) base (envX cn cs L₀ a₀ ccd cl :: outer) h₀)
    (F : Fr h₀ L s.heap (kstB u [(Str.ofString "distance", Value.int d₀ t7), (Str.ofString "result", Value.int d₀ t8), (Str.ofString "minimum", Value.int 9223372036854775807 t4), (Str.ofString "bchar", Value.str (S [ch]) t5), (Str.ofString "row", Value.ref D), (Str.ofString "a", Value.str (S xa) t1), (Str.ofString "b", Value.str (S xb) t2), (Str.ofString "max_cost", Value.int mx t3), (Str.ofString "bindex", Value.int bi t6)]))
    (X : (hd.heap_39 w.params).In h₀) (N : News h₀ L s.heap ((D, listOf (List.toArray vs) cp) :: rest)) (hD : ∀ p ∈ rest, p.1 ≠ D) (T : Top hd.view_39 loo mean mg mb h₀)
    (hE : PassesOwn (model PG w) ((ktrTop dp un gd cn cs L₀ a₀ ccd cl outer).deeper (envLev L)) (envLev L) E)
    (hret : ∀ (c : SI) u' h' tk', IntsAre c.vs c.row → (c.row, c.r, c.mn) = inn substN ch xa row d₀ d₀ 9223372036854775807 →
      Fr h₀ L h' (kstB u' [(Str.ofString "result", Value.int c.r c.tr), (Str.ofString "minimum", Value.int c.mn c.tm), (Str.ofString "row", Value.ref D), (Str.ofString "a", Value.str (S xa) t1), (Str.ofString "b", Value.str (S xb) t2), (Str.ofString "max_cost", Value.int mx t3), (Str.ofString "bindex", Value.int bi t6)]) →
      News h₀ L h' ((D, listOf (List.toArray c.vs) c.cp) :: rest) → Q .next { s with heap := h', toks := tk' }) :
    wpAny (model PG w) ((ktrTop dp un gd cn cs L₀ a₀ ccd cl outer).deeper (envLev L)) (exec levIn (envLev L)) Q E s := by
  with_unfolding_all show wpAny _ _ (exec (Stmt.For _ _ _ _ _) _) _ _ _
  dsimp only [kstB] at F
  have hsa : (S xa).length = xa.length := S_length xa
  k_dflt (refine' For_invVF F ?k1 ?k2 ?_)
  case k1 => exact rfl
  case k2 => exact rfl
  repeat' ((fail_if_success (with_reducible show wpAny _ _ (pyIter _) _ _ _)); (first | (((with_reducible show wpAny _ _ (call (Value.ref 28) [Value.str _ _, Value.str _ _]) _ _ _); k_here; (with_reducible show wpAny _ _ (call (Value.ref 28) [Value.str _ _, Value.str _ _]) _ _ _); k_dflt (refine' c_subst _ _ _ _ _ _ _ _ _ ?h1 ?h2 _ _ _ _ _ _ _ _ _ _ _ _ _ _ _ _ _ ?kB ?kF ?kX ?kN ?kT ?kK ?kd ?ku ?kR; (case kB => k_asm); (case kF => k_asm); (case kX => k_asm); (case kN => k_asm); (case kT => k_asm); (case kK => first | exact rfl | assumption); (case kd => ktr_room); (case ku => ktr_units); (case h1 => omega); (case h2 => omega)); intro _ _ _ _ _; (try dsimp only); (try k_sweep))) | walk_at "1 step"))
  rename IsRange _ _ _ _ _ _ _ _ => rg
  rename Fr _ _ _ _ => lF
  rename News _ _ _ _ => lN
  rw [hsa] at rg
  refine' frange (n := xa.length) (σ := SI) (fun c => (D, listOf (List.toArray c.vs) c.cp) :: rest) (fun c => [(Str.ofString "distance", Value.int c.d c.td), (Str.ofString "result", Value.int c.r c.tr), (Str.ofString "minimum", Value.int c.mn c.tm), (Str.ofString "bchar", Value.str (S [ch]) t5), (Str.ofString "row", Value.ref D), (Str.ofString "a", Value.str (S xa) t1), (Str.ofString "b", Value.str (S xb) t2), (Str.ofString "max_cost", Value.int mx t3), (Str.ofString "bindex", Value.int bi t6)])
    (fun i c => IntsAre c.vs c.row ∧ c.row.length = xa.length ∧ (c.row.take i ++ (inn substN ch (xa.drop i) (c.row.drop i) c.d c.r c.mn).1, (inn substN ch (xa.drop i) (c.row.drop i) c.d c.r c.mn).2) = inn substN ch xa row d₀ d₀ 9223372036854775807)
    ⟨d₀, t7, d₀, t8, 9223372036854775807, t4, vs, cp, row⟩ rfl rg (small_one (by omega) (by omega) (by omega) (by omega)) (by first | exact rangeSize_nat _ _ | rfl) lF lN ?hk ?hp ?ht ?hd
  case hk => kst_all
  case hp => exact ⟨hI, hrow, by simp⟩
  case hd =>
    rintro ⟨d, td, r, tr, mn, tm, vs', cp', row'⟩ u' h' tk' ⟨hI', hl', hP⟩ F' N'
    refine hret ⟨d, td, r, tr, mn, tm, vs', cp', row'⟩ (kstB u' [(Str.ofString "distance", Value.int d td), (Str.ofString "result", Value.int r tr), (Str.ofString "minimum", Value.int mn tm), (Str.ofString "bchar", Value.str (S [ch]) t5), (Str.ofString "row", Value.ref D), (Str.ofString "a", Value.str (S xa) t1), (Str.ofString "b", Value.str (S xb) t2), (Str.ofString "max_cost", Value.int mx t3), (Str.ofString "bindex", Value.int bi t6)]) h' tk' hI' ?_ ?_ N'
    · rw [← hP]
      dsimp only at hl' ⊢
      rw [List.drop_eq_nil_of_le (Nat.le_refl _), List.take_of_length_le (Nat.le_of_eq hl')]
      simp [inn]
    · rw [kstB_self (by kst_all)]
      exact F'
  case ht =>
    clear lF lN
    rintro ⟨d, td, r, tr, mn, tm, vs', cp', row'⟩ i t u' h' tk' own hi hoff ⟨hI', hl', hP⟩ F' N'
    dsimp only [kstB] at F' hI' hl' hP ⊢
    simp only [List.cons_append] at N'
    have hMk := kstMark
    have hch : (S [ch]).length = 1 := S_length _
    simp only [Int.zero_add] at F'
    have hs : subst (S [ch]) (Txt.item (S xa) (i : Int)) = substN ch (xa.getD i 0) := by rw [it_at (by omega) (by omega)]; simp [substN]
    have hall : ∀ p ∈ rest ++ own, p.1 ≠ D := List.forall_mem_append.mpr ⟨hD, hoff.ne (.head _)⟩
    (try k_fold)
    repeat' (first | (((with_reducible show wpAny _ _ (call (Value.ref 28) [Value.str _ _, Value.str _ _]) _ _ _); k_here; (with_reducible show wpAny _ _ (call (Value.ref 28) [Value.str _ _, Value.str _ _]) _ _ _); k_dflt (refine' c_subst _ _ _ _ _ _ _ _ _ ?h1 ?h2 _ _ _ _ _ _ _ _ _ _ _ _ _ _ _ _ _ ?kB ?kF ?kX ?kN ?kT ?kK ?kd ?ku ?kR; (case kB => k_asm); (case kF => k_asm); (case kX => k_asm); (case kN => k_asm); (case kT => k_asm); (case kK => first | exact rfl | assumption); (case kd => ktr_room); (case ku => ktr_units); (case h1 => omega); (case h2 => omega)); intro _ _ _ _ _; (try dsimp only); (try k_sweep))) | walk_at "1 step")
    all_goals (rename Fr _ _ _ _ => lF; rename News _ _ _ _ => lN)
    · (refine' FEnd.mk ⟨_, _, _, _, _, _, _, _, _⟩ lF lN ?hn1 ?ho1 rfl ?hk1 ⟨?i11, ?i21, ?i31⟩
       case hn1 => (dsimp only; refine List.forall_mem_cons.mpr ⟨?_, fun p hp => .tail _ (List.mem_append_left _ hp)⟩; exact List.mem_cons_self)
       case ho1 => exact fun p hp => .tail _ (List.mem_append_right _ hp)
       case hk1 => kst_all
       case i11 => with_reducible assumption
       case i21 => exact (List.length_set ..).trans hl'
       case i31 => exact (inn_step hi hl' (by rw [← hs]; exact vmin _ _ _) (by first | exact (if_pos (by assumption)).symm | exact (if_neg (by assumption)).symm)).trans hP)
    · (refine' FEnd.mk ⟨_, _, _, _, _, _, _, _, _⟩ lF lN ?hn2 ?ho2 rfl ?hk2 ⟨?i12, ?i22, ?i32⟩
       case hn2 => (dsimp only; refine List.forall_mem_cons.mpr ⟨?_, fun p hp => .tail _ (List.mem_append_left _ hp)⟩; exact List.mem_cons_self)
       case ho2 => exact fun p hp => .tail _ (List.mem_append_right _ hp)
       case hk2 => kst_all
       case i12 => with_reducible assumption
       case i22 => exact (List.length_set ..).trans hl'
       case i32 => exact (inn_step hi hl' (by rw [← hs]; exact vmin _ _ _) (by first | exact (if_pos (by assumption)).symm | exact (if_neg (by assumption)).symm)).trans hP)
end
section
structure SO where
  r : Int
  tr : Tok
  vs : List Value
  cp : Nat
  row : List Int
theorem out_step {xa xb : List Nat} {mx : Int} {i : Nat} {row : List Int} {r : Int} {v : Int} (hi : i < xb.length) (h : out substN xa mx (xb.drop i) (i : Int) row r = v) :
    (if mx < (inn substN (xb.getD i 0) xa row (2 * (i : Int)) (2 * (i : Int)) 9223372036854775807).2.2 then mx + 1
      else out substN xa mx (xb.drop (i + 1)) ((i + 1 : Nat) : Int) (inn substN (xb.getD i 0) xa row (2 * (i : Int)) (2 * (i : Int)) 9223372036854775807).1 (inn substN (xb.getD i 0) xa row (2 * (i : Int)) (2 * (i : Int)) 9223372036854775807).2.1) = v := by
  rw [List.drop_eq_getElem_cons hi] at h
  have g : xb.getD i 0 = xb[i] := by simp [hi]
  rw [g, ← h]
  have e : ((i + 1 : Nat) : Int) = (i : Int) + 1 := by omega
  rw [e]
  simp only [out]
theorem inn_len {α : Type} {cost : α → α → Int} {c : α} : ∀ {xa : List α} {row : List Int} {d r m : Int}, row.length = xa.length → (inn cost c xa row d r m).1.length = xa.length
  | [], [], _, _, _, _ => by simp [inn]
  | [], _ :: _, _, _, _, h => by simp at h
  | _ :: _, [], _, _, _, h => by simp at h
  | x :: xs, y :: ys, d, r, m, h => by
    simp only [inn, List.length_cons]
    rw [inn_len (by simpa using h)]

theorem fr_kst {h₀ h : Heap} {L : Addr} {m : Str → Option Value} {ps : List (Str × Value)} (F : Fr h₀ L h m) (hk : ∀ p ∈ ps, m p.1 = some p.2) : Fr h₀ L h (kstB m ps) := by
  rw [kstB_self hk]; exact F
theorem lev_tail (w : World) (mean : ExcName → Option Value) (mg mb : Str → Option Value) (news : CbLed) (xa xb : List Nat) (mx : Int) (t1 t2 t3 : Tok) (ha : xa.length ≤ 40) (hb : xb.length = xa.length) (hm : 0 ≤ mx ∧ mx ≤ 1000)
    (dp un : Nat) (gd : Option (List Code)) (cn : Str) (cs : Scope) (L₀ a₀ : Addr) (ccd : Value) (cl : List (Str × Addr)) (outer : List Env) (base h₀ : Heap) (L : Addr) (u : Str → Option Value) (s : Shared) (Q : Flow → Shared → Prop) (E : Value → Shared → Prop)
    (hdp : dp + 4 < recursionLimit) (hun : un + 80 < cLine) (B : Below (ktrTop dp un gd cn cs L₀ a₀ ccd cl outer) base (envX cn cs L₀ a₀ ccd cl :: outer) h₀) (F : Fr h₀ L s.heap (kstB u [(Str.ofString "a", Value.str (S xa) t1), (Str.ofString "b", Value.str (S xb) t2), (Str.ofString "max_cost", Value.int mx t3)]))
    (X : (hd.heap_39 w.params).In h₀) (N : News h₀ L s.heap news) (T : Top hd.view_39 loo mean mg mb h₀)
    (hE : PassesOwn (model PG w) ((ktrTop dp un gd cn cs L₀ a₀ ccd cl outer).deeper (envLev L)) (envLev L) E)
    (hret : ∀ t h' tk' m', Fr h₀ L h' m' → News h₀ L h' news → Q (.ret (.int (core substN xa xb mx) t)) { s with heap := h', toks := tk' }) :
    wpAny (model PG w) ((ktrTop dp un gd cn cs L₀ a₀ ccd cl outer).deeper (envLev L)) (execs ((bodyAt 6).drop 9) (envLev L)) Q E s := by
  with_unfolding_all show wpAny _ _ (execs (_ :: _) _) _ _ _
  dsimp only [kstB] at F
  have hsa : (S xa).length = xa.length := S_length xa
  have hsb : (S xb).length = xb.length := S_length xb
  by_cases hz : xa.length = 0
  · have e : core substN xa xb mx = 2 * ((S xa).length + (S xb).length) := by
      unfold core; rw [if_pos (Or.inl hz), hsa, hsb]
    rw [e] at hret
    repeat' (first | (((with_reducible show wpAny _ _ (call (Value.type _) [Value.ref _]) _ _ _); k_here; (with_reducible show wpAny _ _ (call (Value.type _) [Value.ref _]) _ _ _); (rename IsRange _ _ _ _ _ _ _ _ => rgX); (with_unfolding_all refine' list_range2 ?k0 ?k1 ?k2 ?k3 ?k4 ?k5 ?_; (case k0 => rfl); (case k1 => k_asm); (case k2 => k_asm); (case k3 => first | exact rgX | assumption); (case k4 => rfl); (case k5 => omega); k_whole); intro _ _ _ _ _ _ _ l1; (try k_lt l1); revert l1; intro _ _; (try k_sweep))) | ((k_openite; (with_reducible show (if (_ != _) = true then _ else _)); first | refine ite_pos (by (simp only [bne_iff_ne, ne_eq]; omega)) ?_ | refine ite_neg (by (simp only [bne_iff_ne, ne_eq]; omega)) ?_)) | walk_at "1 step")
    all_goals exact hret _ _ _ _ (by k_asm) (by k_asm)
  · have e : core substN xa xb mx = out substN xa mx xb 0 (row0 xa.length) 0 := by
      unfold core; rw [if_neg (by omega)]
    rw [e] at hret
    repeat' ((fail_if_success (with_reducible show wpAny _ _ (PySem.exec (Stmt.For _ _ _ _ _) _) _ _ _)); (first | (((with_reducible show wpAny _ _ (call (Value.type _) [Value.ref _]) _ _ _); k_here; (with_reducible show wpAny _ _ (call (Value.type _) [Value.ref _]) _ _ _); (rename IsRange _ _ _ _ _ _ _ _ => rgX); (with_unfolding_all refine' list_range2 ?k0 ?k1 ?k2 ?k3 ?k4 ?k5 ?_; (case k0 => rfl); (case k1 => k_asm); (case k2 => k_asm); (case k3 => first | exact rgX | assumption); (case k4 => rfl); (case k5 => omega); k_whole); intro _ _ _ _ _ _ _ l1; (try k_lt l1); revert l1; intro _ _; (try k_sweep))) | ((k_openite; (with_reducible show (if (_ != _) = true then _ else _)); first | refine ite_pos (by (simp only [bne_iff_ne, ne_eq]; omega)) ?_ | refine ite_neg (by (simp only [bne_iff_ne, ne_eq]; omega)) ?_)) | walk_at "1 step"))
    rename Fr _ _ _ _ => lF
    rename News _ _ _ _ => lN
    rename IntsAre _ _ => hI
    rename (∀ p, p ∈ news → p.fst < _) => hlt
    rw [hsa] at hI
    k_dflt (refine' For_invVF lF ?k1 ?k2 ?_)
    case k1 => exact rfl
    case k2 => exact rfl
    repeat' ((fail_if_success (with_reducible show wpAny _ _ (pyIter _) _ _ _)); (first | (((with_reducible show wpAny _ _ (call (Value.type _) [Value.ref _]) _ _ _); k_here; (with_reducible show wpAny _ _ (call (Value.type _) [Value.ref _]) _ _ _); (rename IsRange _ _ _ _ _ _ _ _ => rgX); (with_unfolding_all refine' list_range2 ?k0 ?k1 ?k2 ?k3 ?k4 ?k5 ?_; (case k0 => rfl); (case k1 => k_asm); (case k2 => k_asm); (case k3 => first | exact rgX | assumption); (case k4 => rfl); (case k5 => omega); k_whole); intro _ _ _ _ _ _ _ l1; (try k_lt l1); revert l1; intro _ _; (try k_sweep))) | ((k_openite; (with_reducible show (if (_ != _) = true then _ else _)); first | refine ite_pos (by (simp only [bne_iff_ne, ne_eq]; omega)) ?_ | refine ite_neg (by (simp only [bne_iff_ne, ne_eq]; omega)) ?_)) | walk_at "1 step"))
    rename IsRange _ _ 0 _ 1 _ _ _ => rg
    rename Fr _ _ _ _ => lF
    rename News _ _ _ _ => lN
    rw [hsb] at rg
    refine' frange (n := xb.length) (σ := SO) (fun c => (_, listOf (List.toArray c.vs) c.cp) :: news) (fun c => [(Str.ofString "result", Value.int c.r c.tr), (Str.ofString "row", Value.ref _), (Str.ofString "a", Value.str (S xa) t1), (Str.ofString "b", Value.str (S xb) t2), (Str.ofString "max_cost", Value.int mx t3)])
      (fun i c => IntsAre c.vs c.row ∧ c.row.length = xa.length ∧ out substN xa mx (xb.drop i) (i : Int) c.row c.r = out substN xa mx xb 0 (row0 xa.length) 0)
      ⟨_, _, _, _, row0 xa.length⟩ rfl rg (small_one (by omega) (by omega) (by omega) (by omega)) (by first | exact rangeSize_nat _ _ | rfl) lF lN ?hk ?hp ?ht ?hd
    case hk => kst_all
    case hp => exact ⟨hI, by simp [row0], rfl⟩
    case hd =>
      clear lF lN
      rintro ⟨r, tr, vs', cp', row'⟩ u' h' tk' ⟨hI', hl', hP⟩ F' N'
      dsimp only [kstB] at F' hI' hl' hP N' ⊢
      rw [List.drop_eq_nil_of_le (Nat.le_refl _)] at hP
      simp only [out] at hP
      rw [← hP] at hret
      repeat' (first | (((with_reducible show wpAny _ _ (call (Value.type _) [Value.ref _]) _ _ _); k_here; (with_reducible show wpAny _ _ (call (Value.type _) [Value.ref _]) _ _ _); (rename IsRange _ _ _ _ _ _ _ _ => rgX); (with_unfolding_all refine' list_range2 ?k0 ?k1 ?k2 ?k3 ?k4 ?k5 ?_; (case k0 => rfl); (case k1 => k_asm); (case k2 => k_asm); (case k3 => first | exact rgX | assumption); (case k4 => rfl); (case k5 => omega); k_whole); intro _ _ _ _ _ _ _ l1; (try k_lt l1); revert l1; intro _ _; (try k_sweep))) | ((k_openite; (with_reducible show (if (_ != _) = true then _ else _)); first | refine ite_pos (by (simp only [bne_iff_ne, ne_eq]; omega)) ?_ | refine ite_neg (by (simp only [bne_iff_ne, ne_eq]; omega)) ?_)) | walk_at "1 step")
      all_goals exact hret _ _ _ _ (by k_asm) (fun p hp => (by assumption : News _ _ _ _) p (.tail _ hp))
    case ht =>
      clear lF lN
      rintro ⟨r, tr, vs', cp', row'⟩ i t u' h' tk' own hi hoff ⟨hI', hl', hP⟩ F' N'
      dsimp only [kstB] at F' hI' hl' hP ⊢
      simp only [List.cons_append] at N'
      simp only [Int.zero_add] at F'
      repeat' ((fail_if_success (with_reducible show wpAny _ _ (PySem.exec (Stmt.For _ _ _ _ _) _) _ _ _)); (first | (((with_reducible show wpAny _ _ (call (Value.type _) [Value.ref _]) _ _ _); k_here; (with_reducible show wpAny _ _ (call (Value.type _) [Value.ref _]) _ _ _); (rename IsRange _ _ _ _ _ _ _ _ => rgX); (with_unfolding_all refine' list_range2 ?k0 ?k1 ?k2 ?k3 ?k4 ?k5 ?_; (case k0 => rfl); (case k1 => k_asm); (case k2 => k_asm); (case k3 => first | exact rgX | assumption); (case k4 => rfl); (case k5 => omega); k_whole); intro _ _ _ _ _ _ _ l1; (try k_lt l1); revert l1; intro _ _; (try k_sweep))) | ((k_openite; (with_reducible show (if (_ != _) = true then _ else _)); first | refine ite_pos (by (simp only [bne_iff_ne, ne_eq]; omega)) ?_ | refine ite_neg (by (simp only [bne_iff_ne, ne_eq]; omega)) ?_)) | walk_at "1 step"))
      rename Fr _ _ _ _ => lF
      rename News _ _ _ _ => lN
      simp only [it_at (show (0 : Int) ≤ (i : Int) by omega) (show (i : Int) < xb.length by omega), Int.toNat_natCast] at lF
      have hne : ∀ p ∈ news ++ own, p.1 ≠ _ := List.forall_mem_append.mpr ⟨fun p hp => Nat.ne_of_lt (hlt p hp), hoff.ne (.head _)⟩
      with_unfolding_all refine' lev_inner w mean mg mb (news ++ own) xa xb (xb.getD i 0) mx (i : Int) ((i : Int) * 2) t1 t2 t3 _ _ _ _ _ _ vs' cp' row' ha hl' hI' dp un gd cn cs L₀ a₀ ccd cl outer base h₀ L _ _ _ _ hdp hun B (fr_kst lF ?hk2) X lN hne T ?hE2 ?hr2
      case hk2 => kst_all
      case hE2 => exact hE
      case hr2 =>
        clear lF lN
        rintro ⟨d2, td2, r2, tr2, mn2, tm2, vs2, cp2, row2⟩ u2 h2 tk2 hI2 hP2 F2 N2
        dsimp only [kstB] at F2 hI2 hP2 N2 ⊢
        have st := out_step hi hP
        rw [Int.mul_comm 2 (i : Int), ← hP2] at st
        dsimp only at st
        have hl2 : row2.length = xa.length := by
          have := inn_len (cost := substN) (c := xb.getD i 0) (d := (i : Int) * 2) (r := (i : Int) * 2) (m := 9223372036854775807) hl'
          rw [← hP2] at this; exact this
        (try k_fold)
        repeat' (first | (((with_reducible show wpAny _ _ (call (Value.type _) [Value.ref _]) _ _ _); k_here; (with_reducible show wpAny _ _ (call (Value.type _) [Value.ref _]) _ _ _); (rename IsRange _ _ _ _ _ _ _ _ => rgX); (with_unfolding_all refine' list_range2 ?k0 ?k1 ?k2 ?k3 ?k4 ?k5 ?_; (case k0 => rfl); (case k1 => k_asm); (case k2 => k_asm); (case k3 => first | exact rgX | assumption); (case k4 => rfl); (case k5 => omega); k_whole); intro _ _ _ _ _ _ _ l1; (try k_lt l1); revert l1; intro _ _; (try k_sweep))) | ((k_openite; (with_reducible show (if (_ != _) = true then _ else _)); first | refine ite_pos (by (simp only [bne_iff_ne, ne_eq]; omega)) ?_ | refine ite_neg (by (simp only [bne_iff_ne, ne_eq]; omega)) ?_)) | walk_at "1 step")
        · rw [if_pos (by assumption)] at st
          rw [← st] at hret
          exact hret _ _ _ _ (by k_asm) (fun p hp => N2 p (.tail _ (List.mem_append_left _ hp)))
        · rw [if_neg (by omega)] at st
          (rename Fr _ _ _ _ => lF; rename News _ _ _ _ => lN)
          refine' FEnd.mk ⟨_, _, _, _, _⟩ lF lN ?hn3 ?ho3 rfl ?hk3 ⟨?i13, ?i23, ?i33⟩
          case hn3 => (dsimp only; refine List.forall_mem_cons.mpr ⟨?_, fun p hp => .tail _ (List.mem_append_left _ hp)⟩; exact List.mem_cons_self)
          case ho3 => exact fun p hp => .tail _ (List.mem_append_right _ hp)
          case hk3 => kst_all
          case i13 => exact hI2
          case i23 => exact hl2
          case i33 => exact st
end
section
noncomputable def hdEq (xs ys : List Nat) : Bool := match xs, ys with
  | x :: _, y :: _ => x == y
  | _, _ => false
theorem hdEq_nil_left {xs ys : List Nat} (h : xs.length = 0) : hdEq xs ys = false := by
  have : xs = [] := List.length_eq_zero_iff.mp h
  subst this; rfl
theorem hdEq_nil_right {xs ys : List Nat} (h : ys.length = 0) : hdEq xs ys = false := by
  have : ys = [] := List.length_eq_zero_iff.mp h
  subst this; cases xs <;> rfl
theorem hdEq_getD {xs ys : List Nat} {i j : Nat} (hi : i < xs.length) (hj : j < ys.length) : hdEq (xs.drop i) (ys.drop j) = (S [xs.getD i 0] == S [ys.getD j 0]) := by
  rw [List.drop_eq_getElem_cons hi, List.drop_eq_getElem_cons hj, S_beq]
  simp [hdEq, List.getD_eq_getElem?_getD, hi, hj]
  by_cases h : xs[i] = ys[j] <;> simp [h]
theorem cpl_hdEq_true {xs ys : List Nat} {k : Nat} (h : hdEq (xs.drop k) (ys.drop k) = true) : k < xs.length ∧ k < ys.length ∧ cpl (xs.drop k) (ys.drop k) = cpl (xs.drop (k + 1)) (ys.drop (k + 1)) + 1 := by
  have hx : k < xs.length := Nat.lt_of_not_le fun c => by rw [List.drop_eq_nil_of_le c] at h; simp [hdEq] at h
  have hy : k < ys.length := Nat.lt_of_not_le fun c => by rw [List.drop_eq_nil_of_le c] at h; cases xs.drop k <;> simp [hdEq] at h
  refine ⟨hx, hy, ?_⟩
  rw [List.drop_eq_getElem_cons hx, List.drop_eq_getElem_cons hy] at h ⊢
  simp [hdEq] at h
  simp [cpl, h]
theorem cpl_hdEq_false {xs ys : List Nat} (h : hdEq xs ys = false) : cpl xs ys = 0 := by
  cases xs with
  | nil => simp [cpl]
  | cons x xs => cases ys with
    | nil => simp [cpl]
    | cons y ys => simp [hdEq] at h; simp [cpl, h]

noncomputable def P1 (la lb : List Nat) (k : Int) : Prop := 0 ≤ k ∧ k ≤ la.length ∧ k ≤ lb.length ∧ cpl (la.drop k.toNat) (lb.drop k.toNat) + k.toNat = cpl la lb
theorem P1_next {la lb : List Nat} {k : Int} (hT : hdEq (la.drop k.toNat) (lb.drop k.toNat) = true) (h : P1 la lb k) : P1 la lb (k + 1) := by
  obtain ⟨h0, h1, h2, h3⟩ := h
  obtain ⟨a, b, c⟩ := cpl_hdEq_true hT
  have e : (k + 1).toNat = k.toNat + 1 := by omega
  refine ⟨by omega, by omega, by omega, ?_⟩
  rw [e]; omega
theorem P1_less {la lb : List Nat} {k : Int} (hT : hdEq (la.drop k.toNat) (lb.drop k.toNat) = true) (h : P1 la lb k) : la.length - (k + 1).toNat < la.length - k.toNat := by
  obtain ⟨h0, h1, h2, h3⟩ := h
  obtain ⟨a, b, c⟩ := cpl_hdEq_true hT
  omega
theorem P1_done {la lb : List Nat} {k : Int} (hT : hdEq (la.drop k.toNat) (lb.drop k.toNat) = false) (h : P1 la lb k) : k = cpl la lb := by
  obtain ⟨h0, h1, h2, h3⟩ := h
  rw [cpl_hdEq_false hT] at h3
  omega
theorem T1_a {la lb : List Nat} {k : Int} (h : P1 la lb k) (e : ((Txt.slice (S la) (some k) none).length : Int) = 0) : false = hdEq (la.drop k.toNat) (lb.drop k.toNat) := by
  rw [sl_from h.1 h.2.1, S_length] at e
  exact (hdEq_nil_left (by omega)).symm
theorem T1_b {la lb : List Nat} {k : Int} (h : P1 la lb k) (e : ((Txt.slice (S lb) (some k) none).length : Int) = 0) : false = hdEq (la.drop k.toNat) (lb.drop k.toNat) := by
  rw [sl_from h.1 h.2.2.1, S_length] at e
  exact (hdEq_nil_right (by omega)).symm
theorem T1_c {la lb : List Nat} {k : Int} {v : Bool} (h : P1 la lb k) (e1 : ((Txt.slice (S la) (some k) none).length : Int) ≠ 0) (e2 : ((Txt.slice (S lb) (some k) none).length : Int) ≠ 0)
    (e : (Txt.item (S la) k == Txt.item (S lb) k) = v) : v = hdEq (la.drop k.toNat) (lb.drop k.toNat) := by
  rw [sl_from h.1 h.2.1, S_length, List.length_drop] at e1
  rw [sl_from h.1 h.2.2.1, S_length, List.length_drop] at e2
  have := h.1
  rw [hdEq_getD (by omega) (by omega), ← e, it_at (by omega) (by omega), it_at (by omega) (by omega)]

theorem rev_getD {l : List Nat} {j : Nat} (h : j < l.length) : l.reverse.getD j 0 = l.getD (l.length - 1 - j) 0 := by
  simp [List.getD_eq_getElem?_getD, List.getElem?_reverse h]
theorem T2_c {la lb : List Nat} {k : Int} {v : Bool} (h : 0 ≤ -k) (h1 : -k < la.length) (h2 : -k < lb.length)
    (e : (Txt.item (S la) (k - 1) == Txt.item (S lb) (k - 1)) = v) : v = hdEq (la.reverse.drop (-k).toNat) (lb.reverse.drop (-k).toNat) := by
  rw [hdEq_getD (by simp; omega) (by simp; omega), ← e, it_neg (by omega) (by omega), it_neg (by omega) (by omega), rev_getD (by omega), rev_getD (by omega)]
  rw [show ((la.length : Int) + (k - 1)).toNat = la.length - 1 - (-k).toNat by omega, show ((lb.length : Int) + (k - 1)).toNat = lb.length - 1 - (-k).toNat by omega]
theorem T2_a {la lb : List Nat} {k : Int} (h0 : 0 ≤ -k) (h : la.length + k = 0) : false = hdEq (la.reverse.drop (-k).toNat) (lb.reverse.drop (-k).toNat) := (hdEq_nil_left (by simp; omega)).symm
theorem T2_b {la lb : List Nat} {k : Int} (h0 : 0 ≤ -k) (h : lb.length + k = 0) : false = hdEq (la.reverse.drop (-k).toNat) (lb.reverse.drop (-k).toNat) := (hdEq_nil_right (by simp; omega)).symm

theorem c_lev (w : World) (mean : ExcName → Option Value) (mg mb : Str → Option Value) (news : CbLed) (la lb : List Nat) (mx : Int) (t1 t2 t3 : Tok) (ha : la.length ≤ 40) (hb : lb.length = la.length) (hm : 0 ≤ mx ∧ mx ≤ 1000) :
    Ctr 4 w mean mg mb 35 news [Value.str (S la) t1, Value.str (S lb) t2, Value.int mx t3] (fun t => Value.int (levL substN la lb mx) t) := by
  dsimp only [Ctr]
  intros
  rename_i hret
  have hsa : (S la).length = la.length := S_length la
  have hsb : (S lb).length = lb.length := S_length lb
  refine wpAny_call ?_
  k_dflt cell_enter
  repeat' ((fail_if_success (with_reducible show wpAny _ _ (PySem.exec (Stmt.While _ _ _ _) _) _ _ _)); (first | (((with_reducible show wpAny _ _ (subscriptTail _ (Expr.Slice none (some _) none _) _ _) _ _ _); (with_reducible rename Fr _ _ _ _ => F'); (with_reducible rename News _ _ _ _ => N'); refine slice_strN_nn_len (s := ⟨_, _, _, _, _⟩) F' N' ?_; intro _ _ _ _ _ _)) | ((k_openite; (with_reducible show (if (_ != _) = true then _ else _)); first | refine ite_pos (by (simp only [bne_iff_ne, ne_eq]; omega)) ?_ | refine ite_neg (by (simp only [bne_iff_ne, ne_eq]; omega)) ?_)) | walk_at "1 step"))
  · refine cb_retI hret ?_ (by k_asm) (by k_asm)
    have e := ‹(S la == S lb) = true›
    rw [S_beq, decide_eq_true_eq] at e
    simp [levL, e]
  · (with_reducible rename Fr _ _ _ _ => lF); (with_reducible rename News _ _ _ _ => lN)
    refine' wh (σ := Int × Tok) (fun _ => news) (fun c => [(Str.ofString "pre", Value.int c.1 c.2), (Str.ofString "a", Value.str (S la) t1), (Str.ofString "b", Value.str (S lb) t2), (Str.ofString "max_cost", Value.int mx t3)]) (fun c => P1 la lb c.1) (fun c => la.length - c.1.toNat) (fun c => hdEq (la.drop c.1.toNat) (lb.drop c.1.toNat)) (0, _) lF lN ?hk ?hp ?ht ?hb ?hd
    case hk => kst_all
    case hp => exact ⟨by omega, by omega, by omega, by simp⟩
    case hd =>
      clear lF lN
      rintro ⟨k, t⟩ u h tk hT hP F N
      dsimp only [kstB] at F hP hT ⊢
      have hP0 := hP.1
      have hP1 := hP.2.1
      have hP2 := hP.2.2.1
      have hk := P1_done hT hP
      obtain ⟨n, rfl⟩ := Int.eq_ofNat_of_zero_le hP0
      clear hT hP
      repeat' ((fail_if_success (with_reducible show wpAny _ _ (PySem.exec (Stmt.While _ _ _ _) _) _ _ _)); (first | (((with_reducible show wpAny _ _ (subscriptTail _ (Expr.Slice none (some _) none _) _ _) _ _ _); (with_reducible rename Fr _ _ _ _ => F'); (with_reducible rename News _ _ _ _ => N'); refine slice_strN_nn_len (s := ⟨_, _, _, _, _⟩) F' N' ?_; intro _ _ _ _ _ _)) | ((k_openite; (with_reducible show (if (_ != _) = true then _ else _)); first | refine ite_pos (by (simp only [bne_iff_ne, ne_eq]; omega)) ?_ | refine ite_neg (by (simp only [bne_iff_ne, ne_eq]; omega)) ?_)) | walk_at "1 step"))
      (with_reducible rename Fr _ _ _ _ => lF); (with_reducible rename News _ _ _ _ => lN)
      rw [sl_from hP0 hP1, sl_from hP0 hP2] at lF
      refine' wh (σ := Int × Tok) (fun _ => news) (fun c => [(Str.ofString "post", Value.int c.1 c.2), (Str.ofString "a", Value.str (S (la.drop n)) _), (Str.ofString "b", Value.str (S (lb.drop n)) _), (Str.ofString "max_cost", Value.int mx t3)]) (fun c => P1 (la.drop n).reverse (lb.drop n).reverse (-c.1)) (fun c => (la.drop n).length - (-c.1).toNat) (fun c => hdEq ((la.drop n).reverse.drop (-c.1).toNat) ((lb.drop n).reverse.drop (-c.1).toNat)) (0, _) lF lN ?hk2 ?hp2 ?ht2 ?hb2 ?hd2
      case hk2 => kst_all
      case hp2 => exact ⟨by omega, by simp, by simp, by simp⟩
      case hd2 =>
        clear lF lN
        rintro ⟨k, t⟩ u h tk hT hP F N
        dsimp only [kstB] at F hP hT ⊢
        have hP0 := hP.1
        have hP1 := hP.2.1
        have hP2 := hP.2.2.1
        have hj := P1_done hT hP
        have hsa1 : (S (la.drop n)).length = la.length - n := by rw [S_length]; simp
        have hsb1 : (S (lb.drop n)).length = lb.length - n := by rw [S_length]; simp
        have hla : (la.drop n).length = la.length - n := List.length_drop
        have hlb : (lb.drop n).length = lb.length - n := List.length_drop
        simp only [List.length_reverse] at hP1 hP2
        clear hT hP
        have hne : la ≠ lb := by
          have e := ‹(S la == S lb) = false›
          rw [S_beq, decide_eq_false_iff_not] at e
          exact e
        have hv : levL substN la lb mx = core substN ((la.drop n).take ((la.drop n).length - (-k).toNat)) ((lb.drop n).take ((lb.drop n).length - (-k).toNat)) mx := by
          have e1 : cpl la lb = n := by omega
          unfold levL
          rw [if_neg hne, e1]
          have e2 : cpl (la.drop n).reverse (lb.drop n).reverse = (-k).toNat := by omega
          simp only [e2]
        rw [hv] at hret
        rcases Int.lt_or_eq_of_le (show k ≤ 0 by omega) with hz | hz
        · repeat' ((fail_if_success (with_reducible show wpAny _ _ (PySem.execs (Stmt.If _ _ _ _ :: _) _) _ _ _)); (first | (((with_reducible show wpAny _ _ (subscriptTail _ (Expr.Slice none (some _) none _) _ _) _ _ _); (with_reducible rename Fr _ _ _ _ => F'); (with_reducible rename News _ _ _ _ => N'); refine slice_strN_nn_len (s := ⟨_, _, _, _, _⟩) F' N' ?_; intro _ _ _ _ _ _)) | ((k_openite; (with_reducible show (if (_ != _) = true then _ else _)); first | refine ite_pos (by (simp only [bne_iff_ne, ne_eq]; omega)) ?_ | refine ite_neg (by (simp only [bne_iff_ne, ne_eq]; omega)) ?_)) | walk_at "1 step"))
          rename Fr _ _ _ _ => lF
          rename News _ _ _ _ => lN
          simp only [sl_neg hz (show -((la.drop n).length : Int) ≤ k by omega), sl_neg hz (show -((lb.drop n).length : Int) ≤ k by omega)] at lF
          rw [show (((la.drop n).length : Int) + k).toNat = (la.drop n).length - (-k).toNat by omega, show (((lb.drop n).length : Int) + k).toNat = (lb.drop n).length - (-k).toNat by omega] at lF
          with_unfolding_all refine' lev_tail w mean mg mb news ((la.drop n).take ((la.drop n).length - (-k).toNat)) ((lb.drop n).take ((lb.drop n).length - (-k).toNat)) mx _ _ _ ?l1 ?l2 hm _ _ _ _ _ _ _ _ _ _ _ _ _ _ _ _ _ ?l3 ?l4 ?l5 (fr_kst lF ?l6) ?l7 lN ?l8 ?l9 ?l10
          case l1 => (rw [List.length_take]; omega)
          case l2 => (rw [List.length_take, List.length_take]; omega)
          case l3 => assumption
          case l4 => (rename (_ + 20 * 4 < cLine) => hu9; omega)
          case l5 => k_asm
          case l6 => kst_all
          case l7 => k_asm
          case l8 => k_asm
          case l9 => passes_own
          case l10 =>
            intro t' h' tk' m' F' N'
            repeat' (first | (((with_reducible show wpAny _ _ (subscriptTail _ (Expr.Slice none (some _) none _) _ _) _ _ _); (with_reducible rename Fr _ _ _ _ => F'); (with_reducible rename News _ _ _ _ => N'); refine slice_strN_nn_len (s := ⟨_, _, _, _, _⟩) F' N' ?_; intro _ _ _ _ _ _)) | ((k_openite; (with_reducible show (if (_ != _) = true then _ else _)); first | refine ite_pos (by (simp only [bne_iff_ne, ne_eq]; omega)) ?_ | refine ite_neg (by (simp only [bne_iff_ne, ne_eq]; omega)) ?_)) | walk_at "1 step")
            exact cb_retI hret rfl (by k_asm) (by k_asm)
        · subst hz
          repeat' ((fail_if_success (with_reducible show wpAny _ _ (PySem.execs (Stmt.If _ _ _ _ :: _) _) _ _ _)); (first | (((with_reducible show wpAny _ _ (subscriptTail _ (Expr.Slice none (some _) none _) _ _) _ _ _); (with_reducible rename Fr _ _ _ _ => F'); (with_reducible rename News _ _ _ _ => N'); refine slice_strN_nn_len (s := ⟨_, _, _, _, _⟩) F' N' ?_; intro _ _ _ _ _ _)) | ((k_openite; (with_reducible show (if (_ != _) = true then _ else _)); first | refine ite_pos (by (simp only [bne_iff_ne, ne_eq]; omega)) ?_ | refine ite_neg (by (simp only [bne_iff_ne, ne_eq]; omega)) ?_)) | walk_at "1 step"))
          rename Fr _ _ _ _ => lF
          rename News _ _ _ _ => lN
          simp only [sl_nn] at lF
          have q1 : (la.drop n).take ((la.drop n).length - (-(0 : Int)).toNat) = la.drop n := List.take_of_length_le (by simp)
          have q2 : (lb.drop n).take ((lb.drop n).length - (-(0 : Int)).toNat) = lb.drop n := List.take_of_length_le (by simp)
          rw [q1, q2] at hret
          with_unfolding_all refine' lev_tail w mean mg mb news (la.drop n) (lb.drop n) mx _ _ _ ?m1 ?m2 hm _ _ _ _ _ _ _ _ _ _ _ _ _ _ _ _ _ ?m3 ?m4 ?m5 (fr_kst lF ?m6) ?m7 lN ?m8 ?m9 ?m10
          case m1 => omega
          case m2 => omega
          case m3 => assumption
          case m4 => (rename (_ + 20 * 4 < cLine) => hu9; omega)
          case m5 => k_asm
          case m6 => kst_all
          case m7 => k_asm
          case m8 => k_asm
          case m9 => passes_own
          case m10 =>
            intro t' h' tk' m' F' N'
            repeat' (first | (((with_reducible show wpAny _ _ (subscriptTail _ (Expr.Slice none (some _) none _) _ _) _ _ _); (with_reducible rename Fr _ _ _ _ => F'); (with_reducible rename News _ _ _ _ => N'); refine slice_strN_nn_len (s := ⟨_, _, _, _, _⟩) F' N' ?_; intro _ _ _ _ _ _)) | ((k_openite; (with_reducible show (if (_ != _) = true then _ else _)); first | refine ite_pos (by (simp only [bne_iff_ne, ne_eq]; omega)) ?_ | refine ite_neg (by (simp only [bne_iff_ne, ne_eq]; omega)) ?_)) | walk_at "1 step")
            exact cb_retI hret rfl (by k_asm) (by k_asm)
      case ht2 =>
        clear lF lN
        rintro ⟨k, t⟩ u h tk hP F N
        dsimp only [kstB] at F hP ⊢
        have hP0 := hP.1
        have hP1 := hP.2.1
        have hP2 := hP.2.2.1
        have hsa1 : (S (la.drop n)).length = la.length - n := by rw [S_length]; simp
        have hsb1 : (S (lb.drop n)).length = lb.length - n := by rw [S_length]; simp
        have hla : (la.drop n).length = la.length - n := List.length_drop
        have hlb : (lb.drop n).length = lb.length - n := List.length_drop
        simp only [List.length_reverse] at hP1 hP2
        (try k_fold)
        rcases Int.lt_or_eq_of_le (show k ≤ 0 by omega) with hz | hz
        · have f1 : ((Txt.slice (S (la.drop n)) none (some k)).length : Int) = (la.drop n).length + k := by rw [sl_neg hz (by omega), S_length, List.length_take]; omega
          have f2 : ((Txt.slice (S (lb.drop n)) none (some k)).length : Int) = (lb.drop n).length + k := by rw [sl_neg hz (by omega), S_length, List.length_take]; omega
          repeat' (first | (((with_reducible show wpAny _ _ (subscriptTail _ (Expr.Slice none (some _) none _) _ _) _ _ _); (with_reducible rename Fr _ _ _ _ => F'); (with_reducible rename News _ _ _ _ => N'); refine slice_strN_nn_len (s := ⟨_, _, _, _, _⟩) F' N' ?_; intro _ _ _ _ _ _)) | ((k_openite; (with_reducible show (if (_ != _) = true then _ else _)); first | refine ite_pos (by (simp only [bne_iff_ne, ne_eq]; omega)) ?_ | refine ite_neg (by (simp only [bne_iff_ne, ne_eq]; omega)) ?_)) | walk_at "1 step")
          all_goals refine TEnd.mk (by k_asm) (by k_asm) ?_
          all_goals first | exact T2_c hP0 (by omega) (by omega) (by assumption) | exact T2_a hP0 (by omega) | exact T2_b hP0 (by omega) | (exfalso; omega)
        · subst hz
          have f1 : ((Txt.slice (S (la.drop n)) none none).length : Int) = (la.drop n).length := by rw [sl_nn, S_length]
          have f2 : ((Txt.slice (S (lb.drop n)) none none).length : Int) = (lb.drop n).length := by rw [sl_nn, S_length]
          repeat' (first | (((with_reducible show wpAny _ _ (subscriptTail _ (Expr.Slice none (some _) none _) _ _) _ _ _); (with_reducible rename Fr _ _ _ _ => F'); (with_reducible rename News _ _ _ _ => N'); refine slice_strN_nn_len (s := ⟨_, _, _, _, _⟩) F' N' ?_; intro _ _ _ _ _ _)) | ((k_openite; (with_reducible show (if (_ != _) = true then _ else _)); first | refine ite_pos (by (simp only [bne_iff_ne, ne_eq]; omega)) ?_ | refine ite_neg (by (simp only [bne_iff_ne, ne_eq]; omega)) ?_)) | walk_at "1 step")
          all_goals refine TEnd.mk (by k_asm) (by k_asm) ?_
          all_goals first | exact T2_c hP0 (by omega) (by omega) (by assumption) | exact T2_a hP0 (by omega) | exact T2_b hP0 (by omega) | (exfalso; omega)
      case hb2 =>
        clear lF lN
        rintro ⟨k, t⟩ u h tk hT hP F N
        dsimp only [kstB] at F hP hT ⊢
        (try k_fold)
        repeat' (first | (((with_reducible show wpAny _ _ (subscriptTail _ (Expr.Slice none (some _) none _) _ _) _ _ _); (with_reducible rename Fr _ _ _ _ => F'); (with_reducible rename News _ _ _ _ => N'); refine slice_strN_nn_len (s := ⟨_, _, _, _, _⟩) F' N' ?_; intro _ _ _ _ _ _)) | ((k_openite; (with_reducible show (if (_ != _) = true then _ else _)); first | refine ite_pos (by (simp only [bne_iff_ne, ne_eq]; omega)) ?_ | refine ite_neg (by (simp only [bne_iff_ne, ne_eq]; omega)) ?_)) | walk_at "1 step")
        have e1 : -(k - 1) = -k + 1 := by omega
        have p3 : P1 (la.drop n).reverse (lb.drop n).reverse (-(k - 1)) := by rw [e1]; exact P1_next hT hP
        have l3 : (la.drop n).length - (-(k - 1)).toNat < (la.drop n).length - (-k).toNat := by
          have := P1_less hT hP
          rw [e1]; simpa using this
        all_goals (refine' WEnd.mk (k - 1, _) (by k_asm) (by k_asm) (fun _ h => h) ?hk3 p3 l3; (case hk3 => kst_all))
    case ht =>
      clear lF lN
      rintro ⟨k, t⟩ u h tk hP F N
      dsimp only [kstB] at F hP ⊢
      have hP0 := hP.1
      have hP1 := hP.2.1
      have hP2 := hP.2.2.1
      (try k_fold)
      repeat' (first | (((with_reducible show wpAny _ _ (subscriptTail _ (Expr.Slice none (some _) none _) _ _) _ _ _); (with_reducible rename Fr _ _ _ _ => F'); (with_reducible rename News _ _ _ _ => N'); refine slice_strN_nn_len (s := ⟨_, _, _, _, _⟩) F' N' ?_; intro _ _ _ _ _ _)) | ((k_openite; (with_reducible show (if (_ != _) = true then _ else _)); first | refine ite_pos (by (simp only [bne_iff_ne, ne_eq]; omega)) ?_ | refine ite_neg (by (simp only [bne_iff_ne, ne_eq]; omega)) ?_)) | walk_at "1 step")
      all_goals refine TEnd.mk (by k_asm) (by k_asm) ?_
      all_goals first | exact T1_a hP (by assumption) | exact T1_b hP (by assumption) | exact T1_c hP (by first | assumption | omega) (by first | assumption | omega) (by assumption)
    case hb =>
      clear lF lN
      rintro ⟨k, t⟩ u h tk hT hP F N
      dsimp only [kstB] at F hP hT ⊢
      (try k_fold)
      repeat' (first | (((with_reducible show wpAny _ _ (subscriptTail _ (Expr.Slice none (some _) none _) _ _) _ _ _); (with_reducible rename Fr _ _ _ _ => F'); (with_reducible rename News _ _ _ _ => N'); refine slice_strN_nn_len (s := ⟨_, _, _, _, _⟩) F' N' ?_; intro _ _ _ _ _ _)) | ((k_openite; (with_reducible show (if (_ != _) = true then _ else _)); first | refine ite_pos (by (simp only [bne_iff_ne, ne_eq]; omega)) ?_ | refine ite_neg (by (simp only [bne_iff_ne, ne_eq]; omega)) ?_)) | walk_at "1 step")
      all_goals (refine' WEnd.mk (k + 1, _) (by k_asm) (by k_asm) (fun _ h => h) ?hk (P1_next hT hP) (P1_less hT hP); (case hk => kst_all))
end
section
theorem sl_rev (l : List Nat) (u : Tok) : Txt.sliceBy (S l) none none (-1, u) = S l.reverse := by
  rw [S_of (Txt.sliceBy (S l) none none (-1, u)), PyProof.Rows.step_rev_list]
  congr 1
  rw [S_length]
  apply List.ext_getElem
  · simp
  · intro i h1 h2
    simp at h1
    simp [S, h1]
    rw [List.getElem?_eq_getElem (by omega)]
    rfl
theorem far_abs (h p : Int) : ((if p - h < 0 then -(p - h) else p - h).fmod 2 = 1) ↔ (p - h) % 2 = 1 := by
  split
  · rw [Int.fmod_eq_emod_of_nonneg _ (by omega)]; omega
  · rw [Int.fmod_eq_emod_of_nonneg _ (by omega)]
theorem c_far (w : World) (mean : ExcName → Option Value) (mg mb : Str → Option Value) (news : CbLed) (a b : Int) (c : Bool) (t1 t2 : Tok) (ha : 0 ≤ a ∧ a ≤ 6) (hb : 0 ≤ b ∧ b ≤ 6) :
    Ctr 2 w mean mg mb 142 news [Value.int a t1, Value.int b t2, Value.bool c] (fun t => Value.int (farI a b c) t) := by
  dsimp only [Ctr]
  intros
  rename_i hret
  refine wpAny_call ?_
  k_dflt cell_enter
  k_steps
  all_goals (refine cb_retI hret ?_ (by k_asm) (by k_asm))
  · have e := (far_abs a b).mp (by assumption)
    simp [farI, *]
  · have e0 : ¬ ((if b - a < 0 then -(b - a) else b - a).fmod 2 = 1) := by assumption
    have e : ¬ (b - a) % 2 = 1 := fun h => e0 ((far_abs a b).mpr h)
    have hc : c = true := by assumption
    subst hc
    unfold farI
    rw [if_pos rfl, if_neg e]
  · simp only [farI, *]
    simp only [Int.min_def]
    repeat' split
    all_goals first | omega | simp_all
noncomputable def pieceL (l : List Nat) (p : Nat) (b : Bool) : List Nat := if b then ((l.drop p).take 6).reverse else (l.drop p).take 6
theorem c_piece (w : World) (mean : ExcName → Option Value) (mg mb : Str → Option Value) (news : CbLed) (l : List Nat) (b : Int) (c : Bool) (t1 t2 : Tok) (ha : l.length = 12) (hb : 0 ≤ b ∧ b ≤ 6) :
    Ctr 2 w mean mg mb 149 news [Value.str (S l) t1, Value.int b t2, Value.bool c] (fun t => Value.str (S (pieceL l b.toNat c)) t) := by
  dsimp only [Ctr]
  intros
  rename_i hret
  have hl : (S l).length = 12 := by rw [S_length, ha]
  have e : Txt.slice (S l) (some b) (some (b + 6)) = S ((l.drop b.toNat).take 6) := by
    rw [sl_ss (by omega) (by omega) (by omega)]
    congr 2; omega
  refine wpAny_call ?_
  k_dflt cell_enter
  k_steps
  all_goals (refine cb_retS hret ?_ (by k_asm) (by k_asm))
  · rw [e, sl_rev]; simp [pieceL, *]
  · rw [e]; simp [pieceL, *]
end
section
theorem strs_split : ∀ {vs : List Value} {l₁ l₂ : List Str} {x : Str}, StrsAre vs (l₁ ++ x :: l₂) → ∃ v₁ t v₂, vs = v₁ ++ .str x t :: v₂ ∧ StrsAre v₁ l₁ ∧ StrsAre v₂ l₂
  | _, [], _, _, .cons _ t h => ⟨[], t, _, rfl, .nil, h⟩
  | _, y :: l₁, l₂, x, .cons _ t h => by
    obtain ⟨v₁, t', v₂, rfl, a, b⟩ := strs_split (l₁ := l₁) h
    exact ⟨_ :: v₁, t', v₂, rfl, .cons y t a, b⟩
section
variable {prog : Program} {w : World} {A : Around} {E : Value → Shared → Prop} {s : Shared} {h₀ : Heap} {L D : Addr} {m : Str → Option Value} {news news' : List (Addr × Obj)} {n : Nat}
theorem l_truthy {vs : List Value} {Q : Bool → Shared → Prop} (N : News h₀ L s.heap news) (hm : (D, listOf (List.toArray vs) n) ∈ news) (hz : vs.length ≤ 100000) (h : ∀ tk, Q (decide (vs.length ≠ 0)) { s with toks := tk }) : wpAny (model prog w) A (truthy (.ref D)) Q E s := by
  refine wpAny_truthy_list (items := vs.toArray) ⟨_, (N _ hm).1, rfl, n, rfl⟩ (by rw [List.size_toArray]; omega) ?_
  have e : (!vs.toArray.isEmpty) = decide (vs.length ≠ 0) := by cases vs <;> simp
  rw [e]
  exact h _
theorem l_pop {p : List Value} {y : Value} {Q : Value → Shared → Prop} (F : Fr h₀ L s.heap m) (N : News h₀ L s.heap news) (U : Upd D (listOf (List.toArray (p ++ [y])) n) (listOf (List.toArray p) (n + 1)) news news') (hz : p.length + 1 ≤ 100000)
    (h : ∀ h', Fr h₀ L h' m → News h₀ L h' news' → Q y { s with heap := h' }) : wpAny (model prog w) A (call (.builtin "list.pop") [.ref D]) Q E s := by
  obtain ⟨pre, post, rfl, rfl, a, b⟩ := U.split
  have z := N (D, listOf (List.toArray (p ++ [y])) n) (List.mem_append.mpr (.inr (.head _)))
  have hz' : (p ++ [y]).toArray.size ≤ sizeLine := by rw [List.size_toArray, sizeLine_eq]; simp; omega
  have hk : (p ++ [y]).toArray.size - 1 = p.length := by rw [List.size_toArray, List.length_append]; rfl
  have hy : (p ++ [y]).toArray[(p ++ [y]).toArray.size - 1]? = some y := by rw [hk]; simp
  refine call_meets PySem.F.slot_list_pop ⟨_, z.1, rfl⟩ PySem.F.entry_list_pop (PySem.F.args_list_pop_1 _) (PySem.MeetsSeq.list_pop_last D _ n y hy hz') ⟨z.1, h _ (F.change (Heap.SameBut.update ..) z.2.1 z.2.2) (kl_turn _ N a b ?_ ?_)⟩
  · show (p ++ [y]).toArray.eraseIdxIfInBounds ((p ++ [y]).toArray.size - 1) = p.toArray
    rw [hk, kl_erase, List.append_nil]
  · rw [List.size_toArray, List.size_toArray, List.length_append]
    simp
theorem l_remove {x : Str} {t : Tok} {va : List Value} {ss : List Str} {news₂ : List Value → List (Addr × Obj)} {Q : Value → Shared → Prop} (hA : A.handled = none) (F : Fr h₀ L s.heap m) (N : News h₀ L s.heap news) (hs : StrsAre va ss)
    (U : ∀ va', Upd D (listOf (List.toArray va) n) (listOf (List.toArray va') (n + 1)) news (news₂ va')) (hz : va.length ≤ 100000)
    (h1 : ∀ h' va', x ∈ ss → StrsAre va' (ss.erase x) → Fr h₀ L h' m → News h₀ L h' (news₂ va') → Q .none { s with heap := h' })
    (h0 : x ∉ ss → ∀ h' tk e, Heap.NewExc s.heap h' e "ValueError" → Fr h₀ L h' m → News h₀ L h' news → E (.ref e) { s with heap := h', toks := tk }) :
    wpAny (model prog w) A (call (.builtin "list.remove") [.ref D, .str x t]) Q E s := by
  have heq : ∀ y, y ∈ va.toArray → MeetsSeq.EqGives y (.str x t) (isStrOf x y) := fun y hy => eq_isStrOf x t hs y (by simpa using hy)
  have hm : (D, listOf (List.toArray va) n) ∈ news := by
    obtain ⟨pre, post, e, _⟩ := (U []).split
    rw [e]; exact List.mem_append.mpr (.inr (.head _))
  have hz' : va.toArray.size ≤ sizeLine := by rw [List.size_toArray, sizeLine_eq]; omega
  by_cases hx : x ∈ ss
  · obtain ⟨l₁, l₂, q1, q2, q3⟩ := List.exists_erase_eq hx
    subst q2
    obtain ⟨v₁, t', v₂, rfl, a₁, a₂⟩ := strs_split hs
    obtain ⟨pre, post, e1, e2, b1, b2⟩ := (U (v₁ ++ v₂)).split
    have z := N _ hm
    refine call_meets PySem.F.slot_list_remove ⟨_, z.1, rfl⟩ PySem.F.entry_list_remove (PySem.F.args_list_remove_2 _ _)
      (MeetsSeq.list_remove D _ n (.str x t) (isStrOf x) heq v₁.length (by simp) (by simp [isStrOf]) ?_ hz')
      ⟨z.1, h1 _ (v₁ ++ v₂) hx (by rw [q3]; exact a₁.append' a₂) (F.change (Heap.SameBut.update ..) z.2.1 z.2.2) ?_⟩
    · intro i hi hlt
      have hv : v₁[i] ∈ v₁ := List.getElem_mem hlt
      have : (v₁ ++ Value.str x t' :: v₂).toArray[i] = v₁[i] := by simp [List.getElem_append_left hlt]
      rw [this]
      cases hb : isStrOf x v₁[i] with
      | false => rfl
      | true =>
        have : v₁.any (isStrOf x) = true := List.any_eq_true.mpr ⟨_, hv, hb⟩
        rw [any_isStrOf x a₁] at this
        obtain ⟨y, hy, he⟩ := List.any_eq_true.mp this
        rw [eq_of_beq he] at hy
        exact absurd hy q1
    · rw [e2]
      rw [e1] at N
      refine kl_turn _ N b1 b2 ?_ ?_
      · exact kl_erase v₁ v₂ _
      · simp
  · refine call_meets PySem.F.slot_list_remove ⟨_, (N _ hm).1, rfl⟩ PySem.F.entry_list_remove (PySem.F.args_list_remove_2 _ _)
      (MeetsSeq.list_remove_none D _ n (.str x t) (isStrOf x) heq ?_)
      ⟨(N _ hm).1, hA, fun h' tk e X => h0 hx h' tk e X (F.keeps X.keeps) (fun p hp => ⟨X.keeps _ _ (N p hp).1, (N p hp).2⟩)⟩
    intro i hi
    cases hb : isStrOf x va.toArray[i] with
    | false => rfl
    | true =>
      have : va.any (isStrOf x) = true := List.any_eq_true.mpr ⟨va.toArray[i], by simp, hb⟩
      rw [any_isStrOf x hs] at this
      obtain ⟨y, hy, he⟩ := List.any_eq_true.mp this
      rw [eq_of_beq he] at hy
      exact absurd hy hx
end
end
section
theorem code_defT {prog : Program} {w : World} {A : Around} {s : Shared} {h₀ : Heap} {L a : Addr} {m : Str → Option Value} {cn : Str} {cs : Scope} {ccd : Value} {cl : List (Str × Addr)} {news : List (Addr × Obj)} {K : Frag} {p : Program} {loose : List Str} {mean : ExcName → Option Value} {mg mb : Str → Option Value}
    {R : Result → Shared → Prop} {name qual : Str} {params : Arguments} {body : List Stmt} {scope : Scope} {dV kV doc pm cdv ct oc : Value} {an od : Option Addr} {osl : Array (Option Value)} {f : Addr} {args : Args} {binds : List (Str × Value)}
    (F : Fr h₀ L s.heap m) (X₀ : K.In h₀) (N : News h₀ L s.heap news) (T : Top p loose mean mg mb h₀) (hck : cs.kind = .function)
    (ho : K.lookup f = some ⟨oc, od, .func (fnOf name qual params body scope dV kV doc pm an cdv ct), osl⟩) (hcd : codeIn K cdv qual = true) (hroom : A.depth < recursionLimit)
    (hbind : BindsTo s (fnOf name qual params body scope dV kV doc pm an cdv ct) args binds) (hloc : ∀ y ∈ binds, scope.names.lookup y.1 = some .local)
    (h : ∀ oL L' h₁, TI.Caller h₀ L m oL → TI.Frs [envX cn cs L a ccd cl] [(L, oL)] → (∀ p ∈ news, p.1 ≠ L) → Fr h₀ L' h₁ (fun y => binds.reverse.lookup y) → News h₀ L' h₁ (news ++ [(L, oL)]) → (∀ p ∈ news, p.1 < L') → L < L' →
      wpAny (model prog w) (A.deeper (envOf qual scope L' f cdv)) (execs body (envOf qual scope L' f cdv))
        (fun fl s' => TI.LeaveI s' (R (.ok (.ret (match fl with | .ret v => v | _ => .none))) s'))
        (fun e s' => wpAny (model prog w) (A.deeper (envOf qual scope L' f cdv)) (leaving (envOf qual scope L' f cdv) e) (fun _ s'' => TI.LeaveX (R (.error e) s'')) (fun e' s'' => TI.LeaveX (R (.error e') s'')) s')
        { s with heap := h₁, toks := s.toks + binds.length })
    (hco : scope.isCoroutine = false := by rfl) (hgen : scope.isGenerator = false := by rfl) (hk : scope.kind = .function := by rfl)
    (hcell : ∀ x ∈ scope.names, x.2 ≠ .cell := by decide) : codeAny (model prog w) A (.call (.ref f) args) R s := by
  have X := X₀.keeps F.keep
  obtain ⟨oL, es, ep, hL, hLd, hLk, hLf⟩ := F.ns
  have hLt := Heap.lt_size hL
  have hkind : (envX cn cs L a ccd cl).scope.kind ≠ .module := by
    show cs.kind ≠ .module
    rw [hck]; decide
  refine codeAny_call_def (fd := fnOf name qual params body scope dV kV doc pm an cdv ct) (body := body) (binds := binds) hroom (X _ _ ho) rfl (T.nolimit.keeps F.keep) (codeRec_of X hcd) rfl hbind hcell hloc (fun h₁ hns hk₁ => ?_) hco hgen hk
  have up : ∀ b o, s.heap.get? b = some o → h₁.get? b = some o := fun b o e => hk₁ b o e
  refine wpAny_mono (h oL _ h₁ ⟨fun h' sl e => ⟨_, es, ep, e, hLd, hLk, hLf⟩, ⟨es, ep, hLd⟩, F.above⟩ ⟨hkind, rfl, ⟨es, ep, hLd⟩, trivial⟩ (fun p hp => (N p hp).2.1)
    ⟨hns, fun b o e => up b o (F.keep b o e), Nat.le_trans F.above (Nat.le_of_lt hLt)⟩ (fun p hp => ?_) (fun p hp => Heap.lt_size (N p hp).1) hLt) (fun _ _ x => x) fun _ _ x => wpAny_mono x (fun _ _ y => y) fun _ _ y => y
  rcases List.mem_append.mp hp with hp | hp
  · obtain ⟨h1, h2, h3⟩ := N p hp
    exact ⟨up _ _ h1, Nat.ne_of_lt (Heap.lt_size h1), h3⟩
  · rcases List.mem_cons.mp hp with rfl | hp
    · exact ⟨up _ _ hL, Nat.ne_of_lt hLt, Heap.get?_none_of_le F.above⟩
    · exact nomatch hp
end
section
structure SU where
  xs : List Nat
  ys : List Nat
  ms : List Nat
  ve : List Value
  va : List Value
  vm : List Value
  ce : Nat
  ca : Nat
  cm : Nat
  sl : Array (Option Value)
noncomputable def sg (c : Nat) : Str := S [c]
noncomputable def PU (xs ys : List Nat) (c : SU) : Prop := StrsAre c.ve (c.xs.map sg) ∧ StrsAre c.va (c.ys.map sg) ∧ StrsAre c.vm (c.ms.map sg) ∧ c.xs.length ≤ 100 ∧ c.ys.length ≤ 100 ∧ c.ms.length + c.xs.length ≤ 100 ∧
  uldL c.xs.reverse c.ys c.ms = uldL xs.reverse ys []
noncomputable abbrev slO (o : Obj) (sl : Array (Option Value)) : Obj := ⟨o.cls, o.dict, o.data, sl⟩
theorem sg_inj (x y : Nat) (h : sg x = sg y) : x = y := by
  have := S_inj h
  simpa using this
theorem PU_found {xs ys xs0 ys' ms' : List Nat} {x : Nat} {ve0 va' vm' va9 : List Value} {tx : Tok} {ce ca cm ce2 ca2 : Nat} {sl sl2 : Array (Option Value)} (hP : PU xs ys ⟨xs0 ++ [x], ys', ms', ve0 ++ [.str (sg x) tx], va', vm', ce, ca, cm, sl⟩) (he : StrsAre ve0 (xs0.map sg))
    (hx : sg x ∈ ys'.map sg) (h9 : StrsAre va9 ((ys'.map sg).erase (sg x))) : PU xs ys ⟨xs0, ys'.erase x, ms', ve0, va9, vm', ce2, ca2, cm, sl2⟩ := by
  obtain ⟨p1, p2, p3, p4, p5, p6, p7⟩ := hP
  dsimp only at p1 p2 p3 p4 p5 p6 p7
  rw [erase_map sg_inj] at h9
  have hm : x ∈ ys' := (mem_map_inj sg_inj x ys').mp hx
  have hl := List.length_erase_of_mem hm
  simp only [List.length_append, List.length_cons, List.length_nil] at p4 p6
  refine ⟨he, h9, p3, by dsimp only; omega, by dsimp only; omega, by dsimp only; omega, ?_⟩
  dsimp only
  rw [← p7, List.reverse_append]
  simp only [List.reverse_cons, List.reverse_nil, List.nil_append, List.singleton_append, uldL, hm, if_true]
theorem PU_lacks {xs ys xs0 ys' ms' : List Nat} {x : Nat} {ve0 va' vm' vm9 : List Value} {tx : Tok} {ce ca cm ce2 cm2 : Nat} {sl sl2 : Array (Option Value)} (hP : PU xs ys ⟨xs0 ++ [x], ys', ms', ve0 ++ [.str (sg x) tx], va', vm', ce, ca, cm, sl⟩) (he : StrsAre ve0 (xs0.map sg))
    (hx : ¬ sg x ∈ ys'.map sg) (h9 : vm9 = vm' ++ [.str (sg x) tx]) : PU xs ys ⟨xs0, ys', ms' ++ [x], ve0, va', vm9, ce2, ca, cm2, sl2⟩ := by
  obtain ⟨p1, p2, p3, p4, p5, p6, p7⟩ := hP
  dsimp only at p1 p2 p3 p4 p5 p6 p7
  subst h9
  have hm : ¬ x ∈ ys' := fun h => hx ((mem_map_inj sg_inj x ys').mpr h)
  simp only [List.length_append, List.length_cons, List.length_nil] at p4 p6
  refine ⟨he, p2, ?_, by dsimp only; omega, by dsimp only; omega, by simp only [List.length_append, List.length_cons, List.length_nil]; omega, ?_⟩
  · dsimp only
    rw [List.map_append]
    exact p3.append' (.cons _ _ .nil)
  · dsimp only
    rw [← p7, List.reverse_append]
    simp only [List.reverse_cons, List.reverse_nil, List.nil_append, List.singleton_append, uldL, hm, if_false]
local macro_rules | `(tactic| k_all) => `(tactic| (apply_assumption; done))
theorem c_uld (w : World) (mean : ExcName → Option Value) (mg mb : Str → Option Value) (news : CbLed) (xs ys : List Nat) (De Da : Addr) (ve va : List Value) (ce ca : Nat) (hne : De ≠ Da) (hDe : ∀ p ∈ news, p.1 ≠ De) (hDa : ∀ p ∈ news, p.1 ≠ Da)
    (hxe : StrsAre ve (xs.map sg)) (hya : StrsAre va (ys.map sg)) (hx : xs.length ≤ 100) (hy : ys.length ≤ 100)
    (dp un : Nat) (gd : Option (List Code)) (cn : Str) (cs : Scope) (a : Addr) (ccd : Value) (cl : List (Str × Addr)) (h₀ : Heap) (L : Addr) (m : Str → Option Value) (s : Shared) (Q E : Value → Shared → Prop)
    (F : Fr h₀ L s.heap m) (X : (hd.heap_39 w.params).In h₀) (N : News h₀ L s.heap ((De, listOf (List.toArray ve) ce) :: (Da, listOf (List.toArray va) ca) :: news)) (T : Top hd.view_39 loo mean mg mb h₀) (hK : cs.kind = .function)
    (hdp : dp + 4 < recursionLimit) (hun : un + 20 * 4 < cLine)
    (hret : ∀ (Tt M : Addr) (vm va' : List Value) (cm ca' ce' : Nat) (h' : Heap) (tk' : Nat), StrsAre vm ((uldL xs.reverse ys []).1.map sg) → StrsAre va' ((uldL xs.reverse ys []).2.map sg) →
      @LT.lt Nat _ M Tt → @LT.lt Nat _ De M → @LT.lt Nat _ Da M → AllLt M news → Fr h₀ L h' m →
      News h₀ L h' ((Tt, { cls := Value.type "tuple", data := Data.seq #[Value.ref M, Value.ref Da] }) :: (M, listOf (List.toArray vm) cm) :: (De, listOf (List.toArray []) ce') :: (Da, listOf (List.toArray va') ca') :: news) → Q (.ref Tt) { s with heap := h', toks := tk' }) :
    wpAny (model PG w) (ktrTop dp un gd cn cs L a ccd cl []) (call (.ref 123) [.ref De, .ref Da]) Q E s := by
  refine wpAny_call ?_
  k_dflt (refine' code_defT (cn := cn) (a := a) (ccd := ccd) (cl := cl) F X N T hK ?k6 ?k7 ?k8 ?k9 ?kB ?_ ?c2 ?c3 ?c4 ?c5)
  case k6 => k_is
  case k7 => k_is
  case k8 => ktr_room
  case k9 => exact BindsTo.of_eq rfl
  case c5 => decide
  case kB => exact locs rfl
  case c2 => exact rfl
  case c3 => exact rfl
  case c4 => exact rfl
  intro oL L' h₁ tiC tiF tiE F' N' hlt hLL
  clear F N
  simp only [List.cons_append] at N'
  (try dsimp only)
  (try k_fold)
  repeat' ((fail_if_success (with_reducible show wpAny _ _ (PySem.exec (Stmt.While _ _ _ _) _) _ _ _)); (first | (((with_reducible show wpAny _ _ (call (Value.builtin "list.remove") [Value.ref _, Value.str _ _]) _ _ _); k_here; (with_reducible show wpAny _ _ (call (Value.builtin "list.remove") [Value.ref _, Value.str _ _]) _ _ _); k_dflt (refine' l_remove ?A ?F ?N ?s ?U ?z ?_ ?_; (case A => rfl); (case F => k_asm); (case N => k_asm); (case U => (intro _; k_upd)); (case s => with_reducible assumption); (case z => omega); k_whole))) | (((with_reducible show wpAny _ _ (call (Value.builtin "list.pop") [Value.ref _]) _ _ _); k_here; (with_reducible show wpAny _ _ (call (Value.builtin "list.pop") [Value.ref _]) _ _ _); k_dflt (refine' l_pop ?F ?N ?U ?z ?_; (case F => k_asm); (case N => k_asm); (case U => k_upd); (case z => omega); k_whole); intro _ _ _; (try k_sweep))) | (((with_reducible show wpAny _ _ (truthy (Value.ref _)) _ _ _); k_here; k_dflt (refine' l_truthy ?N ?m ?z ?_; (case N => k_asm); (case m => k_mem); (case z => omega); k_whole); intro _)) | walk_at "1 step"))
  rename Fr _ _ _ _ => lF
  rename News _ _ _ _ => lN
  rename (_ ∧ _ ∧ AllLt _ (news ++ [(L, oL)])) => hl1
  rename_i M _ _
  have hM1 : @Ne Nat M De := Nat.ne_of_gt hl1.1
  have hM2 : @Ne Nat M Da := Nat.ne_of_gt hl1.2.1
  have hne' : @Ne Nat De Da := hne
  have hMn : ∀ p ∈ news, p.1 ≠ M := fun p hp => Nat.ne_of_lt (kst_ltOf hl1.2.2 p (List.mem_append_left _ hp))
  have hML : L ≠ M := Nat.ne_of_lt (kst_ltOf hl1.2.2 (L, oL) (List.mem_append_right _ (.head _)))
  have hLe : L ≠ De := (tiE _ (.head _)).symm
  have hLa : L ≠ Da := (tiE _ (.tail _ (.head _))).symm
  have aM : ∀ o, ∀ p ∈ news ++ [(L, o)], p.1 ≠ M := fun o => List.forall_mem_append.mpr ⟨hMn, List.forall_mem_cons.mpr ⟨hML, fun _ h => nomatch h⟩⟩
  have aE : ∀ o, ∀ p ∈ news ++ [(L, o)], p.1 ≠ De := fun o => List.forall_mem_append.mpr ⟨hDe, List.forall_mem_cons.mpr ⟨hLe, fun _ h => nomatch h⟩⟩
  have aA : ∀ o, ∀ p ∈ news ++ [(L, o)], p.1 ≠ Da := fun o => List.forall_mem_append.mpr ⟨hDa, List.forall_mem_cons.mpr ⟨hLa, fun _ h => nomatch h⟩⟩
  refine' wh (σ := SU) (fun c => (M, listOf (List.toArray c.vm) c.cm) :: (De, listOf (List.toArray c.ve) c.ce) :: (Da, listOf (List.toArray c.va) c.ca) :: (news ++ [(L, slO oL c.sl)])) (fun c => [(Str.ofString "expected", Value.ref De), (Str.ofString "actual", Value.ref Da), (Str.ofString "missing", Value.ref M)]) (PU xs ys) (fun c => c.xs.length) (fun c => decide (c.xs.length ≠ 0)) ⟨xs, ys, [], ve, va, [], ce, ca, 0, oL.slots⟩ lF lN ?hk ?hp ?ht ?hb ?hd
  case hk => kst_all
  case hp => exact ⟨hxe, hya, .nil, hx, hy, by simpa using hx, rfl⟩
  case hd =>
    clear lF lN
    rintro ⟨xs', ys', ms', ve', va', vm', ce', ca', cm', sl'⟩ u h tk hT hP F N
    dsimp only [kstB] at F hT N ⊢
    obtain ⟨p1, p2, p3, p4, p5, p6, p7⟩ := hP
    dsimp only at p1 p2 p3 p4 p5 p6 p7
    have e0 : xs' = [] := by
      rw [decide_eq_false_iff_not] at hT
      exact List.length_eq_zero_iff.mp (by omega)
    subst e0
    cases p1
    have p8 : (ms', ys') = uldL xs.reverse ys [] := by rw [← p7]; simp [uldL]
    rw [← p8] at hret
    dsimp only at hret
    have hMnL := hl1.2.2
    have hMn2 : AllLt M news := allLt_of fun p hp => kst_ltOf hMnL p (List.mem_append_left _ hp)
    repeat' (first | (((with_reducible show wpAny _ _ (call (Value.builtin "list.remove") [Value.ref _, Value.str _ _]) _ _ _); k_here; (with_reducible show wpAny _ _ (call (Value.builtin "list.remove") [Value.ref _, Value.str _ _]) _ _ _); k_dflt (refine' l_remove ?A ?F ?N ?s ?U ?z ?_ ?_; (case A => rfl); (case F => k_asm); (case N => k_asm); (case U => (intro _; k_upd)); (case s => with_reducible assumption); (case z => omega); k_whole))) | (((with_reducible show wpAny _ _ (call (Value.builtin "list.pop") [Value.ref _]) _ _ _); k_here; (with_reducible show wpAny _ _ (call (Value.builtin "list.pop") [Value.ref _]) _ _ _); k_dflt (refine' l_pop ?F ?N ?U ?z ?_; (case F => k_asm); (case N => k_asm); (case U => k_upd); (case z => omega); k_whole); intro _ _ _; (try k_sweep))) | (((with_reducible show wpAny _ _ (truthy (Value.ref _)) _ _ _); k_here; k_dflt (refine' l_truthy ?N ?m ?z ?_; (case N => k_asm); (case m => k_mem); (case z => omega); k_whole); intro _)) | walk_at "1 step")
    rename Fr _ _ _ _ => lF
    rename News _ _ _ _ => lN
    rename (_ ∧ _ ∧ _ ∧ AllLt _ _) => hl2
    refine TLg.leave_back (new := (_, _) :: (M, _) :: (De, _) :: (Da, _) :: news) tiC lF lN ?_ ?_
    · exact ⟨Nat.ne_of_gt (kst_ltOf hl2.2.2.2 (L, slO oL sl') (List.mem_append_right _ (.head _))), hML.symm, hLe.symm, hLa.symm, TLgL.allNe_of fun p hp => tiE p (.tail _ (.tail _ hp))⟩
    · intro F9 N9
      exact hret _ M vm' va' _ _ _ _ _ p3 p2 hl2.1 hl1.1 hl1.2.1 hMn2 F9 N9
  case ht =>
    clear lF lN
    rintro ⟨xs', ys', ms', ve', va', vm', ce', ca', cm', sl'⟩ u h tk hP F N
    dsimp only [kstB] at F N ⊢
    obtain ⟨p1, p2, p3, p4, p5, p6, p7⟩ := hP
    dsimp only at p1 p2 p3 p4 p5 p6 p7
    have q1 := p1.length
    rw [List.length_map] at q1
    (try k_fold)
    repeat' (first | (((with_reducible show wpAny _ _ (call (Value.builtin "list.remove") [Value.ref _, Value.str _ _]) _ _ _); k_here; (with_reducible show wpAny _ _ (call (Value.builtin "list.remove") [Value.ref _, Value.str _ _]) _ _ _); k_dflt (refine' l_remove ?A ?F ?N ?s ?U ?z ?_ ?_; (case A => rfl); (case F => k_asm); (case N => k_asm); (case U => (intro _; k_upd)); (case s => with_reducible assumption); (case z => omega); k_whole))) | (((with_reducible show wpAny _ _ (call (Value.builtin "list.pop") [Value.ref _]) _ _ _); k_here; (with_reducible show wpAny _ _ (call (Value.builtin "list.pop") [Value.ref _]) _ _ _); k_dflt (refine' l_pop ?F ?N ?U ?z ?_; (case F => k_asm); (case N => k_asm); (case U => k_upd); (case z => omega); k_whole); intro _ _ _; (try k_sweep))) | (((with_reducible show wpAny _ _ (truthy (Value.ref _)) _ _ _); k_here; k_dflt (refine' l_truthy ?N ?m ?z ?_; (case N => k_asm); (case m => k_mem); (case z => omega); k_whole); intro _)) | walk_at "1 step")
    all_goals (refine TEnd.mk (by k_asm) (by k_asm) ?_; rw [q1])
  case hb =>
    clear lF lN
    rintro ⟨xs', ys', ms', ve', va', vm', ce', ca', cm', sl'⟩ u h tk hT hP F N
    dsimp only [kstB] at F hT N ⊢
    obtain ⟨p1, p2, p3, p4, p5, p6, p7⟩ := id hP
    dsimp only at p1 p2 p3 p4 p5 p6 p7
    rw [decide_eq_true_eq] at hT
    obtain ⟨xs0, x, rfl⟩ : ∃ l y, xs' = l ++ [y] := ⟨xs'.dropLast, xs'.getLast (by intro e; rw [e] at hT; exact hT rfl), (List.dropLast_concat_getLast _).symm⟩
    rw [List.map_append] at p1
    obtain ⟨ve0, tx, v2, rfl, e1, e2⟩ := strs_split (l₂ := []) p1
    cases e2
    have q1 := e1.length
    have q2 := p2.length
    have q3 := p3.length
    rw [List.length_map] at q1 q2 q3
    simp only [List.length_append, List.length_cons, List.length_nil] at p4 p6
    (try k_fold)
    repeat' (first | (((with_reducible show wpAny _ _ (call (Value.builtin "list.remove") [Value.ref _, Value.str _ _]) _ _ _); k_here; (with_reducible show wpAny _ _ (call (Value.builtin "list.remove") [Value.ref _, Value.str _ _]) _ _ _); k_dflt (refine' l_remove ?A ?F ?N ?s ?U ?z ?_ ?_; (case A => rfl); (case F => k_asm); (case N => k_asm); (case U => (intro _; k_upd)); (case s => with_reducible assumption); (case z => omega); k_whole))) | (((with_reducible show wpAny _ _ (call (Value.builtin "list.pop") [Value.ref _]) _ _ _); k_here; (with_reducible show wpAny _ _ (call (Value.builtin "list.pop") [Value.ref _]) _ _ _); k_dflt (refine' l_pop ?F ?N ?U ?z ?_; (case F => k_asm); (case N => k_asm); (case U => k_upd); (case z => omega); k_whole); intro _ _ _; (try k_sweep))) | (((with_reducible show wpAny _ _ (truthy (Value.ref _)) _ _ _); k_here; k_dflt (refine' l_truthy ?N ?m ?z ?_; (case N => k_asm); (case m => k_mem); (case z => omega); k_whole); intro _)) | walk_at "1 step")
    · rename Fr _ _ _ _ => lF
      rename News _ _ _ _ => lN
      dsimp only [WPost]
      refine' WEnd.mk ⟨xs0, ys'.erase x, ms', ve0, _, vm', _, _, cm', sl'⟩ lF lN ?hn1 ?hk1 (PU_found hP e1 (by assumption) (by assumption)) (by simp)
      case hn1 => exact fun _ h => h
      case hk1 => kst_all
    · rename Heap.NewExc _ _ _ _ => hx9
      rename Fr _ _ _ _ => lF
      rename News _ _ _ _ => lN
      clear lF lN
      rename Fr _ _ _ _ => lF
      rename News _ _ _ _ => lN
      k_dflt (refine' TLg.noted_new1 (L := L) (oL := slO oL sl') (new := (M, _) :: (De, _) :: (Da, _) :: news) rfl ⟨tiF.1, tiF.2.1, tiF.2.2.1, trivial⟩ hx9 lF lN ?hne9 ?_ rfl)
      case hne9 => exact ⟨hML.symm, hLe.symm, hLa.symm, TLgL.allNe_of fun p hp => tiE p (.tail _ (.tail _ hp))⟩
      clear hx9
      intro h9 sl9 tiF9 tiH9
      simp only [List.cons_append] at tiH9
      have tiHH9 := TT.HeldNA.held tiH9
      repeat' (first | (((with_reducible show wpAny _ _ (call (Value.builtin "list.remove") [Value.ref _, Value.str _ _]) _ _ _); k_here; (with_reducible show wpAny _ _ (call (Value.builtin "list.remove") [Value.ref _, Value.str _ _]) _ _ _); k_dflt (refine' l_remove ?A ?F ?N ?s ?U ?z ?_ ?_; (case A => rfl); (case F => k_asm); (case N => k_asm); (case U => (intro _; k_upd)); (case s => with_reducible assumption); (case z => omega); k_whole))) | (((with_reducible show wpAny _ _ (call (Value.builtin "list.pop") [Value.ref _]) _ _ _); k_here; (with_reducible show wpAny _ _ (call (Value.builtin "list.pop") [Value.ref _]) _ _ _); k_dflt (refine' l_pop ?F ?N ?U ?z ?_; (case F => k_asm); (case N => k_asm); (case U => k_upd); (case z => omega); k_whole); intro _ _ _; (try k_sweep))) | (((with_reducible show wpAny _ _ (truthy (Value.ref _)) _ _ _); k_here; k_dflt (refine' l_truthy ?N ?m ?z ?_; (case N => k_asm); (case m => k_mem); (case z => omega); k_whole); intro _)) | walk_at "1 step")
      rename Fr _ _ _ _ => lF
      rename News _ _ _ _ => lN
      simp only [List.push_toArray] at lN
      dsimp only [WPost]
      refine' WEnd.mk ⟨xs0, ys', ms' ++ [x], ve0, va', _, _, ca', _, sl9⟩ lF lN ?hn2 ?hk2 (PU_lacks (vm9 := vm' ++ [.str (sg x) tx]) hP e1 (by assumption) rfl) (by simp)
      case hn2 => exact fun _ h => h
      case hk2 => kst_all
end
section
noncomputable def bA (ns : List Int) : Array UInt8 := (ns.map fun n => n.toNat.toUInt8).toArray
noncomputable def octL (g0 g1 g2 g3 : Int) : List Int :=
  [(((g0 * 64 + g1) * 64 + g2) * 64 + g3) / 65536, (((g0 * 64 + g1) * 64 + g2) * 64 + g3) / 256 % 256, (((g0 * 64 + g1) * 64 + g2) * 64 + g3) % 256]
theorem oct_k (n : Int) (h : 0 ≤ n) : [n.fdiv 65536, (n.fdiv 256).fmod 256, n.fmod 256] = [n / 65536, n / 256 % 256, n % 256] := by
  rw [Int.fdiv_eq_ediv_of_nonneg _ (by omega), Int.fdiv_eq_ediv_of_nonneg _ (by omega), Int.fmod_eq_emod_of_nonneg _ (by omega), Int.fmod_eq_emod_of_nonneg _ (by omega)]
theorem oct_in {n : Int} (h : 0 ≤ n) (h1 : n < 16777216) : ∀ x ∈ [n / 65536, n / 256 % 256, n % 256], 0 ≤ x ∧ x < 256 := by
  intro x hx
  simp only [List.mem_cons, List.not_mem_nil, or_false] at hx
  rcases hx with rfl | rfl | rfl <;> omega
theorem c_octets (w : World) (mean : ExcName → Option Value) (mg mb : Str → Option Value) (news : CbLed) (D : Addr) (g0 g1 g2 g3 : Int) (t0 t1 t2 t3 : Tok) (n : Nat)
    (h0 : 0 ≤ g0 ∧ g0 < 64) (h1 : 0 ≤ g1 ∧ g1 < 64) (h2 : 0 ≤ g2 ∧ g2 < 64) (h3 : 0 ≤ g3 ∧ g3 < 64) :
    Ctr 2 w mean mg mb 135 ((D, listOf (List.toArray [Value.int g0 t0, Value.int g1 t1, Value.int g2 t2, Value.int g3 t3]) n) :: news) [Value.ref D] (fun t => Value.bytes (bA (octL g0 g1 g2 g3)) t) := by
  dsimp only [Ctr]
  intros
  rename_i hret
  refine wpAny_call ?_
  k_dflt cell_enter
  k_steps
  have hn0 : 0 ≤ ((g0 * 64 + g1) * 64 + g2) * 64 + g3 := by omega
  have hn1 : ((g0 * 64 + g1) * 64 + g2) * 64 + g3 < 16777216 := by omega
  refine' bytes_K (ns := octL g0 g1 g2 g3) ?F ?N ?l ?i ?r ?z ?h ?_
  case F => k_asm
  case N => k_asm
  case l => is_list
  case i => (unfold octL; rw [← oct_k _ hn0]; exact .cons _ _ (.cons _ _ (.cons _ _ .nil)))
  case r => exact oct_in hn0 hn1
  case z => exact Nat.le_of_ble_eq_true rfl
  case h => rfl
  intro h' t' k' F' N' _
  k_steps
  rename News _ _ _ _ => lN
  exact hret _ _ _ (by k_asm) (fun p hp => lN p (.tail _ hp))
end
section
noncomputable def sgs : PySem.Str := Str.ofString "ABCDEFGHIJKLMNOPQRSTUVWXYZabcdefghijklmnopqrstuvwxyz0123456789+/"
theorem sgs_len : sgs.length = 64 := by decide +kernel
theorem S_append (a b : List Nat) : S a ++ S b = S (a ++ b) := by
  show PySem.Str.mk _ = PySem.Str.mk _
  simp [S]
theorem join_S {α : Type} (c : α → Nat) : ∀ l : List α, Txt.join (Str.ofString "") (l.map fun a => S [c a]) = S (l.map c)
  | [] => by
    show PySem.Builtin.Str.glued _ _ = _
    rw [StrLaws.glued_eq_join]; rfl
  | x :: r => by
    have ih := join_S c r
    have e : Str.ofString "" = (⟨#[]⟩ : PySem.Str) := by decide +kernel
    rw [e] at ih ⊢
    show PySem.Builtin.Str.glued _ _ = _
    have ih2 : Str.join ⟨#[]⟩ (r.map fun a => S [c a]) = S (r.map c) := by rw [← ih]; exact (StrLaws.glued_eq_join _ _).symm
    rw [StrLaws.glued_eq_join, List.map_cons, PyProof.Rows.join_nil_cons, ih2, S_append, List.map_cons, List.singleton_append]
noncomputable def sig (k : Int) : Nat := sgs.cps.toList.getD k.toNat 0
theorem item_sgs {k : Int} (h : 0 ≤ k ∧ k < 64) : Txt.item sgs k = S [sig k] := by
  rw [S_of sgs, it_at h.1 (by have := sgs_len; simp [PySem.Str.length] at this; simp [this]; omega)]
  rfl
theorem c_text (w : World) (mean : ExcName → Option Value) (mg mb : Str → Option Value) (news : CbLed) (D : Addr) (vs : List Value) (fs : List Int) (n : Nat) (hI : IntsAre vs fs) (hl : fs.length = 12) (hr : ∀ x ∈ fs, 0 ≤ x ∧ x < 64) :
    Ctr 3 w mean mg mb 128 ((D, listOf (List.toArray vs) n) :: news) [Value.ref D] (fun t => Value.str (S (fs.map sig)) t) := by
  dsimp only [Ctr]
  intros
  rename_i hret
  refine wpAny_call ?_
  (k_dflt (refine' code_defC ?k1 ?k2 ?k3 ?k4 ?k5 ?kA ?kF ?kK ?k6 ?k7 ?k8 ?k9 ?kB ?kD ?_ ?c2 ?c3 ?c4; (case kA => exact rfl); (case kF => exact rfl); (case kK => assumption); (case k1 => k_asm); (case k2 => k_asm); (case k3 => k_asm); (case k4 => k_asm); (case k5 => k_asm); (case k6 => k_is); (case k7 => k_is); (case k8 => ktr_room); (case k9 => exact BindsTo.of_eq rfl); (case kB => exact rfl); (case kD => decide +kernel); (case c2 => exact rfl); (case c3 => exact rfl); (case c4 => exact rfl); k_whole))
  intro g' L' h' tk' cells' FG' F' N' Y' B' X' T' l1
  (try k_lt l1)
  k_cells Y'
  (try simp only [List.cons_append, List.nil_append] at N')
  (try dsimp only)
  (try k_lift B')
  (try k_fold)
  have hnn : ∀ p ∈ news, p.1 ≠ L' + 1 := fun p hp => Nat.ne_of_lt (Nat.lt_succ_of_lt (kst_ltOf l1.2 p hp))
  repeat' ((fail_if_success (with_reducible show wpAny _ _ (PySem.eval (Expr.ListComp _ _ _ _) _) _ _ _)); walk_at "1 step")
  k_dflt (refine LCg.ListComp_U (F₀ := by k_asm) (by with_unfolding_all rfl) (by decide) (by rfl) (by decide) (by rfl) ?_)
  repeat' ((fail_if_success (with_reducible show LCg.CompSrc _ _ _ _ _ _ _ _ _ _ _ _ _ _)); walk_at "1 step")
  refine LCg.CompSrc.ledger rfl (by k_asm) (by k_asm) (by k_mem) (by rw [List.size_toArray, hI.length, hl]; exact Nat.le_of_ble_eq_true rfl) ?_
  intro g
  refine' kct_list (fun k => Txt.item sgs k) hI (fun k t I oI C oC D m ys h tk E' hk hC hx F N off ne => ?_) ?_
  · intro mark
    have hk2 := hr k hk
    have hsl := sgs_len
    unfold sgs at hsl
    k_steps
    exact LCg.CompEnd.intro (by k_asm) (by k_asm) _ (fun _ h => h) off (.inr ⟨_, by k_mem, rfl, _, rfl⟩) ⟨rfl, _, rfl⟩
  · intro ys hC hlen
    unfold LCg.FinE
    intro D9 h9 tk9 F9 N9 o9
    dsimp only
    k_steps
    have e : Txt.join (Str.ofString "") (List.map (Txt.item sgs) fs) = S (fs.map sig) := by
      rw [← join_S sig fs]
      congr 1
      exact List.map_congr_left fun k hk => item_sgs (hr k hk)
    rename News _ _ _ _ => lN
    exact cb_retS hret e (by k_asm) (fun p hp => lN p (.tail _ (.tail _ hp)))
end
section
section
variable {prog : Program} {w : World} {A : Around} {E : Value → Shared → Prop} {s : Shared} {env : Env} {h₀ : Heap} {x : Str} {body : List Stmt} {Q : Flow → Shared → Prop}
theorem fbytes {σ : Type} {b : Array UInt8} {ks : List Int} {tb : Tok} {m₀ : Str → Option Value} (Led : σ → List (Addr × Obj)) (ps : σ → List (Str × Value)) (P : Nat → σ → Prop) (c₀ : σ)
    (hb : KBw.bInts b = ks) (hh : A.handled = none) (F : Fr h₀ env.locals s.heap m₀) (N : News h₀ env.locals s.heap (Led c₀)) (hk : ∀ p ∈ ps c₀, m₀ p.1 = some p.2) (hp : P 0 c₀)
    (turn : ∀ (c : σ) (i : Nat) (n : Int) t (u : Str → Option Value) h tk own, ks[i]? = some n → OwnOff own ((Led c₀).map (·.1)) → P i c →
      Fr h₀ env.locals h (fun y => if y = x then some (.int n t) else kstB u (ps c) y) → News h₀ env.locals h (Led c ++ own) →
      wpAny (model prog w) A (execs body env) (InvPostN h₀ env.locals (FJ Led ps P (i + 1)) own ((Led c₀).map (·.1)) { s with heap := h, toks := tk } Q) E { s with heap := h, toks := tk })
    (done : ∀ (c : σ) (u : Str → Option Value) h tk, P ks.length c → Fr h₀ env.locals h (kstB u (ps c)) → News h₀ env.locals h (Led c) → Q .next { s with heap := h, toks := tk }) :
    wpAny (model prog w) A (pyIter (.bytes b tb)) (fun it s₂ => LoopAtV prog w A h₀ env x body Q E it s₂) E s := by
  subst hb
  refine KBw.pyIter_bytes ?_
  have W := KBw.walks (prog := prog) (w := w) hh s.heap.objs.size b tb
  refine loop_invN (FJ Led ps P) W ?_ ?_ ?_ ?_ ⟨_, Heap.get?_push_size _ rfl, rfl, rfl⟩ (F.push _) (fun p hp => ⟨Heap.get?_push_of_some _ (N p hp).1, (N p hp).2⟩) ⟨c₀, rfl, hk, hp⟩ ?_ ?_
  · intro hm
    exact absurd F.ns.lt ((List.mem_singleton.mp hm) ▸ Nat.lt_irrefl _)
  · intro b' hb
    rw [List.mem_singleton.mp hb]
    exact next_is_new F
  · intro p hp hI
    exact absurd (Heap.lt_size (N p hp).1) ((List.mem_singleton.mp hI) ▸ Nat.lt_irrefl _)
  · intro p hp hI
    exact absurd (Heap.lt_size (N p hp).1) ((List.mem_singleton.mp hI) ▸ Nat.lt_irrefl _)
  · rintro i v m₁ nx h tk own hi ⟨n, u, hn, rfl⟩ _ hoff ⟨c, rfl, h1, hp'⟩ F₁ N₁
    exact turn c i _ u m₁ h tk own (KBw.ints_get hn) hoff hp' (fr_off h1 F₁) N₁
  · rintro m₁ nx h tk ⟨c, rfl, h1, hp'⟩ F₁ N₁
    have h8 : b.size = (KBw.bInts b).length := (KBw.ints_length b).symm
    rw [h8] at hp'
    exact done c m₁ h tk hp' (by rw [kstB_self h1]; exact F₁) N₁
end
theorem bInts_bA {ns : List Int} (h : ∀ x ∈ ns, 0 ≤ x ∧ x < 256) : KBw.bInts (bA ns) = ns := by
  unfold KBw.bInts bA
  rw [List.map_map]
  conv => rhs; rw [← List.map_id ns]
  refine List.map_congr_left fun x hx => ?_
  have := h x hx
  simp only [Function.comp, id]
  have e : x.toNat < 256 := by omega
  rw [show x.toNat.toUInt8.toNat = x.toNat from by simp [Nat.toUInt8, UInt8.toNat_ofNat]; omega]
  omega
end
section
theorem or_and (x y : Int) : Builtin.bitOr x y = x + y - Builtin.bitAnd x y := by
  have h := bitXor_and x y
  have e : Builtin.bitXor x y = Builtin.bitOr x y - Builtin.bitAnd x y := rfl
  omega
theorem and_zero (a n k : Nat) (h : n < 2 ^ k) : (a * 2 ^ k) &&& n = 0 := by
  have e : n = n &&& (2 ^ k - 1) := by rw [Nat.and_two_pow_sub_one_eq_mod, Nat.mod_eq_of_lt h]
  rw [e, Nat.and_comm n, ← Nat.and_assoc, Nat.and_two_pow_sub_one_eq_mod, Nat.mul_mod_left, Nat.zero_and]
theorem or_add {x n : Int} (k : Nat) (hx : 0 ≤ x) (hn : 0 ≤ n) (h : n < 2 ^ k) : Builtin.bitOr (x * 2 ^ k) n = x * 2 ^ k + n := by
  obtain ⟨a, rfl⟩ := Int.eq_ofNat_of_zero_le hx
  obtain ⟨b, rfl⟩ := Int.eq_ofNat_of_zero_le hn
  have hb : b < 2 ^ k := by exact_mod_cast h
  have ha : (a : Int) * 2 ^ k = ((a * 2 ^ k : Nat) : Int) := by simp
  rw [or_and, ha]
  have e : Builtin.bitAnd ((a * 2 ^ k : Nat) : Int) (b : Int) = 0 := by
    unfold Builtin.bitAnd
    rw [decide_eq_true (Int.natCast_nonneg _), decide_eq_true (Int.natCast_nonneg _)]
    simp only [Int.toNat_natCast]
    rw [and_zero a b k hb]; rfl
  omega
theorem lc_eq {lc n : Int} (h0 : 0 ≤ lc) (hn : 0 ≤ n ∧ n < 256) : Builtin.bitAnd (Builtin.bitOr (lc * 2 ^ Int.toNat 8) n) 65535 = (lc * 256 + n) % 65536 := by
  rw [show Int.toNat 8 = 8 from rfl, or_add 8 h0 hn.1 (by omega), bitAnd_m16]; rfl
noncomputable def b64L : List UInt8 := [65, 66, 67, 68, 69, 70, 71, 72, 73, 74, 75, 76, 77, 78, 79, 80, 81, 82, 83, 84, 85, 86, 87, 88, 89, 90, 97, 98, 99, 100, 101, 102, 103, 104, 105, 106, 107, 108, 109, 110, 111, 112, 113, 114, 115, 116, 117, 118, 119, 120, 121, 122, 48, 49, 50, 51, 52, 53, 54, 55, 56, 57, 43, 47]
noncomputable def b64c (k : Int) : Int := ((b64L.getD k.toNat 0).toNat : Int)
theorem b64_item {prog : Program} {w : World} {A : Around} {E : Value → Shared → Prop} {s : Shared} {i : Int} {t ui : Tok} {value slice : Expr} {Q : Value → Shared → Prop} (h : ∀ tk tk', Q (.int (b64c (i % 64)) tk) { s with toks := tk' })
    (hs : subscripted slice false (.bytes b64L.toArray t) (.int (Builtin.bitAnd i 63) ui) = operate [.bytes b64L.toArray t, .int (Builtin.bitAnd i 63) ui] (getItem (.bytes b64L.toArray t) (.int (Builtin.bitAnd i 63) ui)))
    (ht : ∀ r, letTemporaryGo value (.bytes b64L.toArray t) r = pure ()) : wpAny (model prog w) A (subscriptTail value slice (.bytes b64L.toArray t) (.int (Builtin.bitAnd i 63) ui)) Q E s := by
  have e := bitAnd_m6 i
  have hl : b64L.length = 64 := rfl
  refine bytes_item_K (by rw [hl]; decide) (by rw [e]; omega) (by rw [e, hl]; omega) rfl ?_ hs ht
  rw [e]
  exact h _ _
local macro_rules | `(tactic| walk_at "subscriptTail") => `(tactic| ((with_reducible show wpAny _ _ (subscriptTail _ _ (Value.bytes _ _) (Value.int (Builtin.bitAnd _ 63) _)) _ _ _); (with_unfolding_all refine' b64_item ?_ ?hs ?ht); (case hs => with_unfolding_all rfl); (case ht => (intro _; with_unfolding_all rfl)); intro _ _))
theorem ints_app : ∀ {vs ws : List Value} {ns ms : List Int}, IntsAre vs ns → IntsAre ws ms → IntsAre (vs ++ ws) (ns ++ ms)
  | _, _, _, _, .nil, h => h
  | _, _, _, _, .cons n t g, h => .cons n t (ints_app g h)
structure SE where
  lb : Int
  tlb : Tok
  lc : Int
  tlc : Tok
  vo : List Value
  co : Nat
  out : List Int
noncomputable def stepE (q : Int × Int × List Int) (b : Int) : Int × Int × List Int :=
  let l := (q.2.1 * 256 + b) % 65536
  if q.1 = 0 then (2, l, q.2.2 ++ [b64c (l / 4 % 64)]) else if q.1 = 2 then (4, l, q.2.2 ++ [b64c (l / 16 % 64)]) else (0, l, q.2.2 ++ [b64c (l / 64 % 64), b64c (l % 64)])
noncomputable def encN (ns : List Int) : Nat → Int × Int × List Int
  | 0 => (0, 0, [])
  | i + 1 => stepE (encN ns i) (ns.getD i 0)
theorem encN_lb (ns : List Int) : ∀ i, (encN ns i).1 = 2 * ((i % 3 : Nat) : Int)
  | 0 => rfl
  | i + 1 => by
    have ih := encN_lb ns i
    have h3 : i % 3 = 0 ∨ i % 3 = 1 ∨ i % 3 = 2 := by omega
    simp only [encN, stepE, ih]
    rcases h3 with h | h | h
    · have : (i + 1) % 3 = 1 := by omega
      simp [h, this]
    · have : (i + 1) % 3 = 2 := by omega
      simp [h, this]
    · have : (i + 1) % 3 = 0 := by omega
      simp [h, this]
theorem encN_lc (ns : List Int) : ∀ i, 0 ≤ (encN ns i).2.1 ∧ (encN ns i).2.1 < 65536
  | 0 => by simp [encN]
  | i + 1 => by
    simp only [encN, stepE]
    split
    · dsimp only; omega
    · split <;> (dsimp only; omega)
theorem encN_len (ns : List Int) : ∀ i, (encN ns i).2.2.length ≤ 2 * i
  | 0 => by simp [encN]
  | i + 1 => by
    have ih := encN_len ns i
    simp only [encN, stepE]
    split
    · simp; omega
    · split <;> (simp; omega)
theorem b64c_in (k : Int) : 0 ≤ b64c k ∧ b64c k < 256 := by
  unfold b64c
  have := (b64L.getD k.toNat 0).toNat_lt
  omega
theorem encN_in (ns : List Int) : ∀ i, ∀ x ∈ (encN ns i).2.2, 0 ≤ x ∧ x < 256
  | 0 => by simp [encN]
  | i + 1 => by
    have ih := encN_in ns i
    intro x hx
    simp only [encN, stepE] at hx
    split at hx
    · simp only [List.mem_append, List.mem_cons, List.not_mem_nil, or_false] at hx
      rcases hx with hx | rfl
      · exact ih x hx
      · exact b64c_in _
    · split at hx <;> simp only [List.mem_append, List.mem_cons, List.not_mem_nil, or_false] at hx
      · rcases hx with hx | rfl
        · exact ih x hx
        · exact b64c_in _
      · rcases hx with hx | rfl | rfl
        · exact ih x hx
        · exact b64c_in _
        · exact b64c_in _
theorem fd4 {l : Int} : l.fdiv (2 ^ (0 + 8 - 6 : Int).toNat) % 64 = l / 4 % 64 := by
  rw [Int.fdiv_eq_ediv_of_nonneg _ (by decide)]; rfl
theorem fd16 {l : Int} : l.fdiv (2 ^ (2 + 8 - 6 : Int).toNat) % 64 = l / 16 % 64 := by
  rw [Int.fdiv_eq_ediv_of_nonneg _ (by decide)]; rfl
theorem fd64 {l : Int} : l.fdiv (2 ^ (4 + 8 - 6 : Int).toNat) % 64 = l / 64 % 64 := by
  rw [Int.fdiv_eq_ediv_of_nonneg _ (by decide)]; rfl
theorem fd1 {l : Int} : l.fdiv (2 ^ (4 + 8 - 6 - 6 : Int).toNat) % 64 = l % 64 := by
  rw [Int.fdiv_eq_ediv_of_nonneg _ (by decide), show (2 : Int) ^ (4 + 8 - 6 - 6 : Int).toNat = 1 from rfl, Int.ediv_one]
theorem c_enc (w : World) (mean : ExcName → Option Value) (mg mb : Str → Option Value) (news : CbLed) (ns : List Int) (t0 : Tok) (hl : ns.length = 9) (hr : ∀ x ∈ ns, 0 ≤ x ∧ x < 256) :
    Ctr 6 w mean mg mb 108 news [Value.bytes (bA ns) t0] (fun t => Value.bytes (bA (encN ns 9).2.2) t) := by
  dsimp only [Ctr]
  intros
  rename_i hret
  have hsz : (bA ns).size = 9 := by simp [bA, hl]
  refine wpAny_call ?_
  walk_at "1 enter"
  repeat' ((fail_if_success (with_reducible show wpAny _ _ (PySem.exec (Stmt.For _ _ _ _ _) _) _ _ _)); (first | (((with_reducible show wpAny _ _ (call (Value.type _) [_]) _ _ _); first | (refine call_type_of (typeIs_bytes _ _ _) (by decide) ?_) | (refine call_type_of (typeIs_str _ _ _) (by decide) ?_) | (refine call_type_of (typeIs_bool _ _) (by decide) ?_) | (refine call_type_of (typeIs_int _ _ _) (by decide) ?_))) | (((with_reducible show wpAny _ _ (call (Value.ref _) _ _) _ _ _); k_here; (refine wpAny_call ?_); walk_at "1 enter")) | walk_at "1 step"))
  rename Fr _ _ _ _ => lF
  rename News _ _ _ _ => lN
  k_dflt (refine' For_invVF lF ?k1 ?k2 ?_)
  case k1 => exact rfl
  case k2 => exact rfl
  repeat' ((fail_if_success (with_reducible show wpAny _ _ (pyIter _) _ _ _)); (first | (((with_reducible show wpAny _ _ (call (Value.type _) [_]) _ _ _); first | (refine call_type_of (typeIs_bytes _ _ _) (by decide) ?_) | (refine call_type_of (typeIs_str _ _ _) (by decide) ?_) | (refine call_type_of (typeIs_bool _ _) (by decide) ?_) | (refine call_type_of (typeIs_int _ _ _) (by decide) ?_))) | (((with_reducible show wpAny _ _ (call (Value.ref _) _ _) _ _ _); k_here; (refine wpAny_call ?_); walk_at "1 enter")) | walk_at "1 step"))
  rename Fr _ _ _ _ => lF
  rename News _ _ _ _ => lN
  rename (∀ p, p ∈ news → p.fst < _) => hlD
  refine' fbytes (σ := SE) (fun c => (_, listOf (List.toArray c.vo) c.co) :: news) (fun c => [(Str.ofString "leftbits", Value.int c.lb c.tlb), (Str.ofString "leftchar", Value.int c.lc c.tlc), (Str.ofString "out", Value.ref _), (Str.ofString "newline", Value.bool false)])
    (fun i c => IntsAre c.vo c.out ∧ (c.lb, c.lc, c.out) = encN ns i)
    ⟨0, _, 0, _, [], _, []⟩ (bInts_bA hr) rfl lF lN ?hk ?hp ?ht ?hd
  case hk => kst_all
  case hp => exact ⟨.nil, rfl⟩
  case hd =>
    clear lF lN
    rintro ⟨lb, tlb, lc, tlc, vo, co, out⟩ u' h' tk' ⟨hI, hE⟩ F' N'
    dsimp only [kstB] at F' hI hE N' ⊢
    rw [hl] at hE
    have q7 := encN_lb ns 9
    have q8 := encN_in ns 9
    have q9 := encN_len ns 9
    rw [← hE] at q7 q8 q9 hret
    dsimp only at q7 q8 q9 hret
    have e0 : lb = 0 := q7
    subst e0
    have hvl : vo.length ≤ 18 := by rw [hI.length]; omega
    repeat' (first | (((with_reducible show wpAny _ _ (call (Value.type _) [_]) _ _ _); first | (refine call_type_of (typeIs_bytes _ _ _) (by decide) ?_) | (refine call_type_of (typeIs_str _ _ _) (by decide) ?_) | (refine call_type_of (typeIs_bool _ _) (by decide) ?_) | (refine call_type_of (typeIs_int _ _ _) (by decide) ?_))) | (((with_reducible show wpAny _ _ (call (Value.ref _) _ _) _ _ _); k_here; (refine wpAny_call ?_); walk_at "1 enter")) | walk_at "1 step")
    rename News _ _ _ _ => lN
    first | exact hret _ _ _ (by k_asm) (by k_asm) | exact hret _ _ _ (by k_asm) (fun p hp => lN p (.tail _ hp))
  case ht =>
    clear lF lN
    rintro ⟨lb, tlb, lc, tlc, vo, co, out⟩ i n t u' h' tk' own hi hoff ⟨hI, hE⟩ F' N'
    dsimp only [kstB] at F' hI hE ⊢
    simp only [List.cons_append] at N'
    have hn := hr n (List.mem_of_getElem? hi)
    have hlen := encN_len ns i
    have q6 := encN_lc ns i
    have q7 := encN_lb ns i
    rw [← hE] at hlen q6 q7
    dsimp only at hlen q6 q7
    have q3 := q6.1
    have q5 : lb = 0 ∨ lb = 2 ∨ lb = 4 := by omega
    have hgn : ns.getD i 0 = n := by simp [hi]
    have hst : encN ns (i + 1) = stepE (lb, lc, out) n := by rw [encN, ← hE, hgn]
    have hi9 : i < 9 := by
      have := (List.getElem?_eq_some_iff.mp hi).1
      omega
    have hvl : vo.length ≤ 16 := by rw [hI.length]; omega
    have hall : ∀ p ∈ news ++ own, p.1 ≠ _ := List.forall_mem_append.mpr ⟨fun p hp => Nat.ne_of_lt (hlD p hp), hoff.ne (.head _)⟩
    have hlc := lc_eq q3 hn
    repeat' ((fail_if_success (with_reducible show wpAny _ _ (PySem.exec (Stmt.While _ _ _ _) _) _ _ _)); (first | (((with_reducible show wpAny _ _ (call (Value.type _) [_]) _ _ _); first | (refine call_type_of (typeIs_bytes _ _ _) (by decide) ?_) | (refine call_type_of (typeIs_str _ _ _) (by decide) ?_) | (refine call_type_of (typeIs_bool _ _) (by decide) ?_) | (refine call_type_of (typeIs_int _ _ _) (by decide) ?_))) | (((with_reducible show wpAny _ _ (call (Value.ref _) _ _) _ _ _); k_here; (refine wpAny_call ?_); walk_at "1 enter")) | walk_at "1 step"))
    rename Fr _ _ _ _ => lF
    rename News _ _ _ _ => lN
    simp only [hlc] at lF
    generalize hl2 : (lc * 256 + n) % 65536 = lc2 at lF
    have hlc2 : 0 ≤ lc2 ∧ lc2 < 65536 := by omega
    clear hlc
    rcases q5 with rfl | rfl | rfl
    · repeat' (first | (((with_reducible show wpAny _ _ (call (Value.type _) [_]) _ _ _); first | (refine call_type_of (typeIs_bytes _ _ _) (by decide) ?_) | (refine call_type_of (typeIs_str _ _ _) (by decide) ?_) | (refine call_type_of (typeIs_bool _ _) (by decide) ?_) | (refine call_type_of (typeIs_int _ _ _) (by decide) ?_))) | (((with_reducible show wpAny _ _ (call (Value.ref _) _ _) _ _ _); k_here; (refine wpAny_call ?_); walk_at "1 enter")) | walk_at "1 step")
      rename Fr _ _ _ _ => lF
      rename News _ _ _ _ => lN
      simp only [List.push_toArray, List.append_assoc, List.singleton_append, List.cons_append, List.nil_append] at lN
      refine' FEnd.mk ⟨_, _, _, _, _, _, _⟩ lF lN ?hn1 ?ho1 rfl ?hk1 ⟨?i11, ?i21⟩
      case hn1 => (dsimp only; refine List.forall_mem_cons.mpr ⟨?_, fun p hp => .tail _ (List.mem_append_left _ hp)⟩; exact List.mem_cons_self)
      case ho1 => exact fun p hp => .tail _ (List.mem_append_right _ hp)
      case hk1 => kst_all
      case i11 => exact ints_app hI (.cons _ _ .nil)
      case i21 => (dsimp only; rw [hst]; simp only [stepE, hl2, fd4]; rfl)
    · repeat' (first | (((with_reducible show wpAny _ _ (call (Value.type _) [_]) _ _ _); first | (refine call_type_of (typeIs_bytes _ _ _) (by decide) ?_) | (refine call_type_of (typeIs_str _ _ _) (by decide) ?_) | (refine call_type_of (typeIs_bool _ _) (by decide) ?_) | (refine call_type_of (typeIs_int _ _ _) (by decide) ?_))) | (((with_reducible show wpAny _ _ (call (Value.ref _) _ _) _ _ _); k_here; (refine wpAny_call ?_); walk_at "1 enter")) | walk_at "1 step")
      rename Fr _ _ _ _ => lF
      rename News _ _ _ _ => lN
      simp only [List.push_toArray, List.append_assoc, List.singleton_append, List.cons_append, List.nil_append] at lN
      refine' FEnd.mk ⟨_, _, _, _, _, _, _⟩ lF lN ?hn2 ?ho2 rfl ?hk2 ⟨?i12, ?i22⟩
      case hn2 => (dsimp only; refine List.forall_mem_cons.mpr ⟨?_, fun p hp => .tail _ (List.mem_append_left _ hp)⟩; exact List.mem_cons_self)
      case ho2 => exact fun p hp => .tail _ (List.mem_append_right _ hp)
      case hk2 => kst_all
      case i12 => exact ints_app hI (.cons _ _ .nil)
      case i22 => (dsimp only; rw [hst]; simp only [stepE, hl2, fd16]; rfl)
    · repeat' (first | (((with_reducible show wpAny _ _ (call (Value.type _) [_]) _ _ _); first | (refine call_type_of (typeIs_bytes _ _ _) (by decide) ?_) | (refine call_type_of (typeIs_str _ _ _) (by decide) ?_) | (refine call_type_of (typeIs_bool _ _) (by decide) ?_) | (refine call_type_of (typeIs_int _ _ _) (by decide) ?_))) | (((with_reducible show wpAny _ _ (call (Value.ref _) _ _) _ _ _); k_here; (refine wpAny_call ?_); walk_at "1 enter")) | walk_at "1 step")
      rename Fr _ _ _ _ => lF
      rename News _ _ _ _ => lN
      simp only [List.push_toArray, List.append_assoc, List.singleton_append, List.cons_append, List.nil_append] at lN
      refine' FEnd.mk ⟨_, _, _, _, _, _, _⟩ lF lN ?hn3 ?ho3 rfl ?hk3 ⟨?i13, ?i23⟩
      case hn3 => (dsimp only; refine List.forall_mem_cons.mpr ⟨?_, fun p hp => .tail _ (List.mem_append_left _ hp)⟩; exact List.mem_cons_self)
      case ho3 => exact fun p hp => .tail _ (List.mem_append_right _ hp)
      case hk3 => kst_all
      case i13 => exact ints_app hI (.cons _ _ (.cons _ _ .nil))
      case i23 => (dsimp only; rw [hst]; simp only [stepE, hl2, fd64, fd1]; rfl)
end
section
theorem forIn_two {β : Type} {f : Nat → β → Sem (ForInStep β)} {s0 s1 : β} (h0 : f 0 s0 = pure (.yield s1)) (h1 : f 1 s1 = pure (.done s1)) (m : Nat) : forIn [:m + 2] s0 f = pure s1 := by
  rw [Std.Legacy.Range.forIn_eq_forIn_range']
  have e : List.range' ([:m + 2] : Std.Legacy.Range).start ([:m + 2] : Std.Legacy.Range).size ([:m + 2] : Std.Legacy.Range).step = 0 :: 1 :: List.range' 2 m 1 := by
    have : ([:m + 2] : Std.Legacy.Range).size = m + 2 := by simp [Std.Legacy.Range.size]
    rw [this]; rfl
  rw [e, List.forIn_cons, h0]
  show forIn (1 :: List.range' 2 m) s1 f = pure s1
  rw [List.forIn_cons, h1]
  rfl
theorem fold_bytes : ∀ (l : List Nat) (acc : Array UInt8), l.foldl (fun acc y => acc ++ [y.toUInt8].toArray) acc = acc ++ (l.map fun c => c.toUInt8).toArray
  | [], acc => by simp
  | x :: xs, acc => by rw [List.foldl_cons, fold_bytes xs]; simp
open PySem.Builtin PySem.Builtin._codecs in
theorem enc_ascii (id : String) (self : Value) (x : PySem.Str) (h : ∀ c ∈ x.cps.toList, c < 128) (hn : 2 ≤ x.length) (hx : x.length ≤ 1000) :
    encodeNarrow id asciiCodec none self x = pure (x.cps.toList.map (fun c => c.toUInt8)).toArray := by
  obtain ⟨m, hm⟩ : ∃ m, x.length = m + 2 := ⟨x.length - 2, by omega⟩
  have hsz : x.cps.size = m + 2 := hm
  unfold encodeNarrow
  simp only [hm]
  have hbad : ∀ c ∈ x.cps, asciiCodec.bad c = false := fun c hc => by
    have := h c (by simpa using hc)
    simp [asciiCodec]; omega
  have hfind : Array.findIdx? asciiCodec.bad x.cps = none := by
    rw [Array.findIdx?_eq_none_iff]
    exact fun c hc => hbad c hc
  have hext : x.cps.extract 0 (m + 2) = x.cps := by rw [← hsz]; simp
  have h0 : x.cps[0]? = some x.cps[0] := by simp
  refine Eq.trans (congrArg (fun z : Sem _ => z >>= _) (forIn_two (s1 := (m + 2, (x.cps.toList.map fun c => c.toUInt8).toArray, {})) ?_ ?_ m)) rfl
  · rw [if_neg (by simp)]
    simp only [h0]
    rw [if_pos (by rw [hbad _ (by simp)]; rfl)]
    simp only [hsz, hext, hfind, Option.getD_none, Nat.zero_add]
    have e : Array.foldl (fun acc y => acc ++ (asciiCodec.bytesOf y).toArray) #[] x.cps = (x.cps.toList.map fun c => c.toUInt8).toArray := by
      rw [← Array.foldl_toList]
      exact (fold_bytes _ _).trans (by simp)
    rw [hsz] at e
    rw [e]
  · have hs1 : ¬ ((x.cps.toList.map fun c => c.toUInt8).toArray.size > sizeLine) := by
      rw [sizeLine_eq]; simp; omega
    rw [if_neg hs1]
    have h2 : x.cps[m + 2]? = none := by simp [hsz]
    simp only [h2]
section
open PySem.Builtin PySem.Builtin.Str PySem.Builtin._codecs
theorem road_ascii (id : String) (self : Value) (x : PySem.Str) : encodeRoad id self x (Str.ofString "ascii") none = (do mkBytes (← encodeNarrow id asciiCodec none self x)) := by
  first | rfl | (unfold encodeRoad; rfl) | kernel_rfl
theorem encode_tree_ascii (x : PySem.Str) (t u : Tok) : «str.encode» ⟨[.str x t, .str (Str.ofString "ascii") u], []⟩ = (do ret (← encodeRoad "str.encode" (.str x t) x (Str.ofString "ascii") none)) := by
  first | rfl | kernel_rfl
end
section
open PySem.Builtin PySem.Builtin.Str PySem.Builtin._codecs
theorem meets_encode {x : PySem.Str} {t u : Tok} (h : ∀ c ∈ x.cps.toList, c < 128) (hn : 2 ≤ x.length) (hx : x.length ≤ 1000) :
    Meets («str.encode» ⟨[.str x t, .str (Str.ofString "ascii") u], []⟩) (fun _ R s => ∀ t' k, R (.ok (.ret (.bytes (x.cps.toList.map (fun c => c.toUInt8)).toArray t'))) { s with toks := k }) := by
  refine .of_wp fun prog w A R s hS => ?_
  rw [encode_tree_ascii, road_ascii, enc_ascii _ _ _ h hn hx]
  refine wpAny_bind (wpAny_bind (wpAny_pure ?_))
  exact wpAny_mkBytes (wpAny_pure ⟨_, rfl, hS _ _⟩) (by rw [sizeLine_eq]; simp only [List.size_toArray, List.length_map, Array.length_toList]; show x.length ≤ _; omega)
end
theorem call_encode {prog : Program} {w : World} {A : Around} {E : Value → Shared → Prop} {s : Shared} {l : List Nat} {t u : Tok} {Q : Value → Shared → Prop} (h : ∀ c ∈ l, c < 128) (hn : 2 ≤ l.length) (hx : l.length ≤ 1000)
    (hQ : ∀ t' k, Q (.bytes (bA (l.map fun (c : Nat) => (c : Int))) t') { s with toks := k }) : wpAny (model prog w) A (call (.builtin "str.encode") [.str (S l) t, .str (Str.ofString "ascii") u]) Q E s := by
  refine call_meets PySem.F.slot_str_encode (typeIs_str _ _ _) PySem.F.entry_str_encode (PySem.F.args_str_encode_2 _ _) (meets_encode (x := S l) (by simpa [S] using h) (by rw [S_length]; exact hn) (by rw [S_length]; exact hx)) ?_
  intro t' k
  have e : (S l).cps.toList.map (fun c => c.toUInt8) = (l.map fun (c : Nat) => (c : Int)).map fun n => n.toNat.toUInt8 := by simp [S]
  rw [e]
  exact hQ t' k
theorem forIn_steps {β : Type} {f : Nat → β → Sem (ForInStep β)} (st : Nat → β) : ∀ (n k : Nat), (∀ i, k ≤ i → i < k + n → f i (st i) = pure (.yield (st (i + 1)))) → forIn (List.range' k n 1) (st k) f = pure (st (k + n))
  | 0, _, _ => rfl
  | n + 1, k, h => by
    rw [List.range'_succ, List.forIn_cons, h k (by omega) (by omega)]
    show forIn (List.range' (k + 1) n 1) (st (k + 1)) f = _
    rw [forIn_steps st n (k + 1) (fun i h1 h2 => h i (by omega) (by omega))]
    congr 2; omega
theorem forIn_legacy {β : Type} {f : Nat → β → Sem (ForInStep β)} (st : Nat → β) (n : Nat) (h : ∀ i, i < n → f i (st i) = pure (.yield (st (i + 1)))) : forIn [:n] (st 0) f = pure (st n) := by
  rw [Std.Legacy.Range.forIn_eq_forIn_range']
  have e : List.range' ([:n] : Std.Legacy.Range).start ([:n] : Std.Legacy.Range).size ([:n] : Std.Legacy.Range).step = List.range' 0 n 1 := by
    have : ([:n] : Std.Legacy.Range).size = n := by simp [Std.Legacy.Range.size]
    rw [this]
  rw [e, forIn_steps st n 0 (fun i _ h2 => h i (by omega)), Nat.zero_add]
section
open PySem.Builtin PySem.Builtin.Str PySem.Builtin._codecs
theorem dec_ascii (id : String) (b : Array UInt8) (h : ∀ c ∈ b.toList, c.toNat < 128) (hx : b.size ≤ 1000) :
    runDecoder id asciiDecoder none true b 0 [] = pure ((b.toList.map (fun c => c.toNat)).toArray, b.size) := by
  unfold runDecoder
  dsimp only
  refine Eq.trans (congrArg (fun z : Sem _ => z >>= _) (forIn_legacy (fun i => (i, ((b.toList.take i).map fun c => c.toNat).toArray, ({} : Faults))) b.size ?_)) ?_
  · intro i hi
    have hs : ¬ (((b.toList.take i).map fun c => c.toNat).toArray.size > sizeLine) := by
      rw [sizeLine_eq]; simp only [List.size_toArray, List.length_map, List.length_take]; omega
    dsimp only
    rw [if_neg hs, if_neg (by omega)]
    have hb : b.getD i 0 = b[i] := by simp [hi]
    have hc : (b.getD i 0).toNat < 128 := by rw [hb]; exact h _ (by simp)
    have hf : asciiDecoder.find true b i = .text [(b.getD i 0).toNat] (i + 1) := by
      simp only [asciiDecoder, hc, if_true]
      rfl
    rw [hf]
    dsimp only
    congr 3
    rw [List.take_add_one, hb]
    simp [hi]
  · rw [List.take_of_length_le (by simp)]
    rfl
end
section
open PySem.Builtin PySem.Builtin.Str PySem.Builtin._codecs
theorem args_dec2 (a b : Value) : argsOk "bytes.decode" ⟨[a, b], []⟩ := by
  unfold argsOk; rw [signature?_of (id := "bytes.decode") (n := ['e', 'd', 'o', 'c', 'e', 'd']) (o := ['s', 'e', 't', 'y', 'b']) (by kernel_rfl) (by first | exact owner_bytes | exact FB.owner_bytes | exact PySem.F.owner_bytes)]; kernel_rfl
theorem dec_road {id : String} {b : Array UInt8} : decodeRoad id b (Str.ofString "ascii") none [] = (runDecoder id asciiDecoder none true b 0 [] >>= fun r => mkStr ⟨r.1⟩) := by kernel_rfl
theorem dec_text {b : Array UInt8} {x : PySem.Str} {n : Nat} {t t1 t2 : Tok} {d : PySem.Str} (hd : ∀ id, runDecoder id asciiDecoder none true b 0 [] = pure (x.cps, n)) :
    Meets («_codecs.decode.text» ⟨[.bytes b t, .str (Str.ofString "ascii") t1, .none, .str d t2], []⟩) (fun _ R s => x.length ≤ sizeLine ∧ R (.ok (.ret (.str x s.toks))) { s with toks := s.toks + 1 }) := by
  refine .of_wp fun prog w A R s hS => ?_
  obtain ⟨hsz, h⟩ := hS
  show wpAny _ _ (Bytes.bytesLike _ (.bytes b t) >>= fun r => _) _ _ s
  refine wpAny_bind (wpAny_of_eq KBd.like_eq ?_)
  refine wpAny_bind (wpAny_of_eq KBd.held_eq ?_)
  show wpAny _ _ (decodeRoad _ b (Str.ofString "ascii") none [] >>= fun v => _) _ _ s
  rw [dec_road, hd]
  refine wpAny_bind (wpAny_bind (wpAny_pure ?_))
  exact wpAny_mkStr (wpAny_pure ⟨_, rfl, h⟩) hsz
theorem dec_entry {c : UInt8} {cs : List UInt8} {t u : Tok} : «bytes.decode» ⟨[.bytes (c :: cs).toArray t, .str (Str.ofString "ascii") u], []⟩ = (mkStr (Str.ofString "utf-8") >>= fun _ => mkStr (Str.ofString "ascii") >>= fun e => mkStr (Str.ofString "bytes.decode") >>= fun d =>
    call (.builtin "_codecs.decode.text") [.bytes (c :: cs).toArray t, e, .none, d] >>= fun v => ret v) := by kernel_rfl
theorem meets_dec {c : UInt8} {cs : List UInt8} {t u : Tok} {x : PySem.Str} {n : Nat} (hd : ∀ id, runDecoder id asciiDecoder none true (c :: cs).toArray 0 [] = pure (x.cps, n)) :
    Meets («bytes.decode» ⟨[.bytes (c :: cs).toArray t, .str (Str.ofString "ascii") u], []⟩) (fun _ R s => x.length ≤ sizeLine ∧ ∀ t' k, R (.ok (.ret (.str x t'))) { s with toks := k }) := by
  refine .of_wp fun prog w A R s hS => ?_
  obtain ⟨hsz, h⟩ := hS
  rw [dec_entry]
  refine wpAny_bind (wpAny_mkStr ?_ (by decide))
  refine wpAny_bind (wpAny_mkStr ?_ (by decide))
  refine wpAny_bind (wpAny_mkStr ?_ (by decide))
  exact wpAny_bind (call_function_meets KBd.kind_text KBd.plain_text KBd.entry_text (KBd.args_text _ _ _ _) (dec_text hd) ⟨hsz, wpAny_pure ⟨_, rfl, h _ _⟩⟩)
end
theorem u8_small (x : Int) (h0 : 0 ≤ x) (h1 : x < 128) : x.toNat.toUInt8.toNat = x.toNat := by
  have e : x.toNat < 256 := by omega
  show (UInt8.ofNat x.toNat).toNat = x.toNat
  rw [UInt8.toNat_ofNat']
  exact Nat.mod_eq_of_lt e
theorem bA_chars {ns : List Int} (h : ∀ c ∈ ns, 0 ≤ c ∧ c < 128) : (bA ns).toList.map (fun c => c.toNat) = ns.map Int.toNat := by
  show (ns.map fun n => n.toNat.toUInt8).map (fun c => c.toNat) = _
  rw [List.map_map]
  exact List.map_congr_left fun x hx' => u8_small x (h x hx').1 (h x hx').2
theorem call_decode {prog : Program} {w : World} {A : Around} {E : Value → Shared → Prop} {s : Shared} {ns : List Int} {t u : Tok} {Q : Value → Shared → Prop} (h : ∀ c ∈ ns, 0 ≤ c ∧ c < 128) (hn : 1 ≤ ns.length) (hx : ns.length ≤ 1000)
    (hQ : ∀ t' k, Q (.str (S (ns.map Int.toNat)) t') { s with toks := k }) : wpAny (model prog w) A (call (.builtin "bytes.decode") [.bytes (bA ns) t, .str (Str.ofString "ascii") u]) Q E s := by
  have hlt : ∀ c ∈ (bA ns).toList, c.toNat < 128 := by
    intro c hc
    have hc' : c ∈ ns.map fun n => n.toNat.toUInt8 := hc
    obtain ⟨y, hy, rfl⟩ := List.mem_map.mp hc'
    have := h y hy
    rw [u8_small y this.1 this.2]; omega
  have hsz : (bA ns).size = ns.length := by simp [bA]
  have hd : ∀ id, PySem.Builtin._codecs.runDecoder id PySem.Builtin._codecs.asciiDecoder none true (bA ns) 0 [] = pure ((S (ns.map Int.toNat)).cps, (bA ns).size) := fun id => by
    rw [dec_ascii id (bA ns) hlt (by rw [hsz]; exact hx), bA_chars h]
    rfl
  have hl : (S (ns.map Int.toNat)).length ≤ sizeLine := by rw [S_length, sizeLine_eq, List.length_map]; omega
  generalize S (ns.map Int.toNat) = x at hd hQ hl
  obtain ⟨c, cs, hcs⟩ : ∃ c cs, bA ns = List.toArray (c :: cs) := by
    cases ns with
    | nil => simp at hn
    | cons n r => exact ⟨_, _, rfl⟩
  rw [hcs] at hd ⊢
  exact call_meets FB.slot_bytes_decode (typeIs_bytes _ _ _) FB.entry_bytes_decode (args_dec2 _ _) (meets_dec hd) ⟨hl, hQ⟩
end
section
theorem meth_encode {M : Model} {A : Around} {E : Value → Shared → Prop} {s : Shared} {x : PySem.Str} {t : Tok} {pl : Sem Bool} {Q : Value × List Value → Shared → Prop} (h : Q (.builtin "str.encode", [.str x t]) s) : wpAny M A (getMethod (.str x t) (Str.ofString "encode") pl) Q E s :=
  getMethod_builtin (typeIs_str _ _ _) PySem.F.plainAttrs_str PySem.F.slot_str_encode PySem.F.type_str_encode (fun _ e => nomatch e) h
local macro_rules | `(tactic| walk_at "getMethod str") => `(tactic| ((with_reducible show wpAny _ _ (getMethod (Value.str _ _) (PySem.Str.ofString "encode") _) _ _ _); refine meth_encode ?_))
local macro_rules | `(tactic| walk_at "call builtin:str.encode") => `(tactic| ((with_reducible show wpAny _ _ (call (Value.builtin "str.encode") [Value.str (S _) _, Value.str _ _]) _ _ _); (refine call_encode ?h1 ?h2 ?h3 ?_); (case h1 => assumption); (case h2 => omega); (case h3 => omega); intro _ _))
noncomputable def b64v (c : Int) : Int := if 65 ≤ c ∧ c ≤ 90 then c - 65 else if 97 ≤ c ∧ c ≤ 122 then c - 71 else if 48 ≤ c ∧ c ≤ 57 then c + 4 else if c = 43 then 62 else if c = 47 then 63 else 64
theorem b64v_c : ∀ k : Fin 64, b64v (b64c (k.val : Int)) = (k.val : Int) := by decide +kernel
theorem b64v_1 {c : Int} (h : 65 ≤ c) (h2 : c ≤ 90) : b64v c = c - 65 := if_pos ⟨h, h2⟩
theorem b64v_2 {c : Int} (h : 97 ≤ c) (h2 : c ≤ 122) : b64v c = c - 71 := (if_neg (by omega)).trans (if_pos ⟨h, h2⟩)
theorem b64v_3 {c : Int} (h : 48 ≤ c) (h2 : c ≤ 57) : b64v c = c + 4 := (if_neg (by omega)).trans ((if_neg (by omega)).trans (if_pos ⟨h, h2⟩))
theorem b64v_4 {c : Int} (h : c = 43) : b64v c = 62 := by subst h; rfl
theorem b64v_5 {c : Int} (h : c = 47) : b64v c = 63 := by subst h; rfl
theorem b64v_6 {c : Int} (h1 : 65 ≤ c → c ≤ 90 → False) (h2 : 97 ≤ c → c ≤ 122 → False) (h3 : 48 ≤ c → c ≤ 57 → False) (h4 : c ≠ 43) (h5 : c ≠ 47) : b64v c = 64 :=
  (if_neg fun h => h1 h.1 h.2).trans ((if_neg fun h => h2 h.1 h.2).trans ((if_neg fun h => h3 h.1 h.2).trans ((if_neg h4).trans (if_neg h5))))
theorem c_val (w : World) (mean : ExcName → Option Value) (mg mb : Str → Option Value) (news : CbLed) (c : Int) (t0 : Tok) (hc : 0 ≤ c ∧ c < 256) :
    Ctr 2 w mean mg mb 84 news [Value.int c t0] (fun t => Value.int (b64v c) t) := by
  dsimp only [Ctr]
  intros
  rename_i hret
  refine wpAny_call ?_
  walk_at "1 enter"
  repeat' (first | (((with_reducible show wpAny _ _ (call (Value.type _) [_]) _ _ _); first | (refine call_type_of (typeIs_bytes _ _ _) (by decide) ?_) | (refine call_type_of (typeIs_str _ _ _) (by decide) ?_) | (refine call_type_of (typeIs_bool _ _) (by decide) ?_) | (refine call_type_of (typeIs_int _ _ _) (by decide) ?_))) | (((with_reducible show wpAny _ _ (call (Value.ref _) _ _) _ _ _); k_here; (refine wpAny_call ?_); walk_at "1 enter")) | walk_at "1 step")
  all_goals (refine cb_retI hret ?_ (by k_asm) (by k_asm))
  all_goals first
    | exact b64v_1 (by assumption) (by assumption)
    | exact (b64v_1 (by assumption) (by assumption)).symm
    | exact b64v_2 (by assumption) (by assumption)
    | exact (b64v_2 (by assumption) (by assumption)).symm
    | exact b64v_3 (by assumption) (by assumption)
    | exact (b64v_3 (by assumption) (by assumption)).symm
    | exact b64v_4 (by assumption)
    | exact (b64v_4 (by assumption)).symm
    | exact b64v_5 (by assumption)
    | exact (b64v_5 (by assumption)).symm
    | exact b64v_6 (by first | exact fun h _ => absurd h (by assumption) | exact fun _ h => absurd h (by assumption) | (intro h _; omega)) (by first | exact fun h _ => absurd h (by assumption) | exact fun _ h => absurd h (by assumption) | (intro h _; omega)) (by first | exact fun h _ => absurd h (by assumption) | exact fun _ h => absurd h (by assumption) | (intro h _; omega)) (by assumption) (by assumption)
    | exact (b64v_6 (by first | exact fun h _ => absurd h (by assumption) | exact fun _ h => absurd h (by assumption) | (intro h _; omega)) (by first | exact fun h _ => absurd h (by assumption) | exact fun _ h => absurd h (by assumption) | (intro h _; omega)) (by first | exact fun h _ => absurd h (by assumption) | exact fun _ h => absurd h (by assumption) | (intro h _; omega)) (by assumption) (by assumption)).symm
local macro_rules | `(tactic| walk_at "call ref") => `(tactic| (k_here; (with_reducible show wpAny _ _ (call (Value.ref 84) [Value.int _ _]) _ _ _); k_dflt (refine' c_val _ _ _ _ _ _ _ ?h1 _ _ _ _ _ _ _ _ _ _ _ _ _ _ _ _ _ ?kB ?kF ?kX ?kN ?kT ?kK ?kd ?ku ?kR; (case kB => k_asm); (case kF => k_asm); (case kX => k_asm); (case kN => k_asm); (case kT => k_asm); (case kK => first | exact rfl | assumption); (case kd => ktr_room); (case ku => ktr_units); (case h1 => omega)); intro t9 h9 tk9 F9 N9; (try dsimp only); (try k_sweep)))
structure SD where
  q : Int
  tq : Tok
  lc : Int
  tlc : Tok
  tp : Tok
  iv : Int
  ti : Tok
  vo : List Value
  co : Nat
  out : List Int
noncomputable def stepD (q : Int × Int × List Int) (v : Int) : Int × Int × List Int :=
  if q.1 = 0 then (1, v, q.2.2) else if q.1 = 1 then (2, v % 16, q.2.2 ++ [q.2.1 * 4 + v / 16]) else if q.1 = 2 then (3, v % 4, q.2.2 ++ [q.2.1 * 16 + v / 4]) else (0, 0, q.2.2 ++ [q.2.1 * 64 + v])
noncomputable def decN (vs : List Int) : Nat → Int × Int × List Int
  | 0 => (0, 0, [])
  | i + 1 => stepD (decN vs i) (vs.getD i 0)
theorem decN_ok {vs : List Int} (hv : ∀ x ∈ vs, 0 ≤ x ∧ x < 64) : ∀ i, i ≤ vs.length → (decN vs i).1 = ((i % 4 : Nat) : Int) ∧ 0 ≤ (decN vs i).2.1 ∧ (decN vs i).2.1 < 64 ∧ (decN vs i).2.2.length ≤ i
  | 0, _ => by simp [decN]
  | i + 1, hi => by
    obtain ⟨a, b, c, d⟩ := decN_ok hv i (by omega)
    have hx : 0 ≤ vs.getD i 0 ∧ vs.getD i 0 < 64 := by
      have : vs.getD i 0 = vs[i] := by simp [show i < vs.length by omega]
      rw [this]; exact hv _ (List.getElem_mem _)
    have h4 : i % 4 = 0 ∨ i % 4 = 1 ∨ i % 4 = 2 ∨ i % 4 = 3 := by omega
    simp only [decN, stepD, a]
    generalize vs.getD i 0 = v at hx ⊢
    rcases h4 with h | h | h | h
    · have : (i + 1) % 4 = 1 := by omega
      simp [h, this]; omega
    · have : (i + 1) % 4 = 2 := by omega
      simp [h, this]; omega
    · have : (i + 1) % 4 = 3 := by omega
      simp [h, this]; omega
    · have : (i + 1) % 4 = 0 := by omega
      simp [h, this]; omega
theorem decN_in {vs : List Int} (hv : ∀ x ∈ vs, 0 ≤ x ∧ x < 64) : ∀ i, i ≤ vs.length → (i % 4 = 2 → (decN vs i).2.1 < 16) ∧ (i % 4 = 3 → (decN vs i).2.1 < 4) ∧ ∀ y ∈ (decN vs i).2.2, 0 ≤ y ∧ y < 256
  | 0, _ => by simp [decN]
  | i + 1, hi => by
    obtain ⟨a, b, c, d⟩ := decN_ok hv i (by omega)
    obtain ⟨e, f, g⟩ := decN_in hv i (by omega)
    have hx : 0 ≤ vs.getD i 0 ∧ vs.getD i 0 < 64 := by
      have : vs.getD i 0 = vs[i] := by simp [show i < vs.length by omega]
      rw [this]; exact hv _ (List.getElem_mem _)
    have h4 : i % 4 = 0 ∨ i % 4 = 1 ∨ i % 4 = 2 ∨ i % 4 = 3 := by omega
    simp only [decN, stepD, a]
    generalize vs.getD i 0 = v at hx ⊢
    generalize (decN vs i).2.1 = lc at b c e f ⊢
    rcases h4 with h | h | h | h
    · rw [if_pos (by omega)]
      exact ⟨by omega, by omega, g⟩
    · rw [if_neg (by omega), if_pos (by omega)]
      refine ⟨fun _ => by dsimp only; omega, by omega, fun y hy => ?_⟩
      rcases List.mem_append.mp hy with hy | hy
      · exact g y hy
      · rw [List.mem_singleton.mp hy]; omega
    · rw [if_neg (by omega), if_neg (by omega), if_pos (by omega)]
      have := e h
      refine ⟨by omega, fun _ => by dsimp only; omega, fun y hy => ?_⟩
      rcases List.mem_append.mp hy with hy | hy
      · exact g y hy
      · rw [List.mem_singleton.mp hy]; omega
    · rw [if_neg (by omega), if_neg (by omega), if_neg (by omega)]
      have := f h
      refine ⟨by omega, by omega, fun y hy => ?_⟩
      rcases List.mem_append.mp hy with hy | hy
      · exact g y hy
      · rw [List.mem_singleton.mp hy]; omega
theorem bo1 {lc v : Int} (h0 : 0 ≤ lc) (hv : 0 ≤ v ∧ v < 64) : Builtin.bitOr (lc * 2 ^ Int.toNat 2) (v.fdiv (2 ^ Int.toNat 4)) = lc * 4 + v / 16 := by
  rw [Int.fdiv_eq_ediv_of_nonneg _ (by decide), show Int.toNat 2 = 2 from rfl, or_add 2 h0 (by show 0 ≤ v / 16; omega) (by show v / 16 < 4; omega)]; rfl
theorem bo2 {lc v : Int} (h0 : 0 ≤ lc) (hv : 0 ≤ v ∧ v < 64) : Builtin.bitOr (lc * 2 ^ Int.toNat 4) (v.fdiv (2 ^ Int.toNat 2)) = lc * 16 + v / 4 := by
  rw [Int.fdiv_eq_ediv_of_nonneg _ (by decide), show Int.toNat 4 = 4 from rfl, or_add 4 h0 (by show 0 ≤ v / 4; omega) (by show v / 4 < 16; omega)]; rfl
theorem bo3 {lc v : Int} (h0 : 0 ≤ lc) (hv : 0 ≤ v ∧ v < 64) : Builtin.bitOr (lc * 2 ^ Int.toNat 6) v = lc * 64 + v := by
  rw [show Int.toNat 6 = 6 from rfl, or_add 6 h0 hv.1 (by show v < 64; omega)]; rfl

theorem c_dec (w : World) (mean : ExcName → Option Value) (mg mb : Str → Option Value) (news : CbLed) (l : List Nat) (t0 : Tok) (hl : l.length = 12) (hr : ∀ x ∈ l, x < 128) (hv : ∀ x ∈ l, 0 ≤ b64v (x : Int) ∧ b64v (x : Int) < 64) :
    Ctr 6 w mean mg mb 116 news [Value.str (S l) t0] (fun t => Value.bytes (bA (decN (l.map fun (x : Nat) => b64v (x : Int)) 12).2.2) t) := by
  dsimp only [Ctr]
  intros
  rename_i hret
  have hsl : (S l).length = 12 := by rw [S_length, hl]
  have hvs : ∀ x ∈ l.map (fun (x : Nat) => b64v (x : Int)), 0 ≤ x ∧ x < 64 := by
    intro x hx
    obtain ⟨y, hy, rfl⟩ := List.mem_map.mp hx
    exact hv y hy
  have hvl : (l.map (fun (x : Nat) => b64v (x : Int))).length = 12 := by rw [List.length_map, hl]
  refine wpAny_call ?_
  walk_at "1 enter"
  repeat' ((fail_if_success (with_reducible show wpAny _ _ (PySem.exec (Stmt.For _ _ _ _ _) _) _ _ _)); (first | (((with_reducible show wpAny _ _ (call (Value.type _) [_]) _ _ _); first | (refine call_type_of (typeIs_bytes _ _ _) (by decide) ?_) | (refine call_type_of (typeIs_str _ _ _) (by decide) ?_) | (refine call_type_of (typeIs_bool _ _) (by decide) ?_) | (refine call_type_of (typeIs_int _ _ _) (by decide) ?_))) | (((with_reducible show wpAny _ _ (call (Value.ref _) _ _) _ _ _); k_here; (refine wpAny_call ?_); walk_at "1 enter")) | walk_at "1 step"))
  rename (∀ p, p ∈ news → p.fst < _) => hlD
  rename Fr _ _ _ _ => lF
  rename News _ _ _ _ => lN
  k_dflt (refine' For_invVF lF ?k1 ?k2 ?_)
  case k1 => exact rfl
  case k2 => exact rfl
  repeat' ((fail_if_success (with_reducible show wpAny _ _ (pyIter _) _ _ _)); (first | (((with_reducible show wpAny _ _ (call (Value.type _) [_]) _ _ _); first | (refine call_type_of (typeIs_bytes _ _ _) (by decide) ?_) | (refine call_type_of (typeIs_str _ _ _) (by decide) ?_) | (refine call_type_of (typeIs_bool _ _) (by decide) ?_) | (refine call_type_of (typeIs_int _ _ _) (by decide) ?_))) | (((with_reducible show wpAny _ _ (call (Value.ref _) _ _) _ _ _); k_here; (refine wpAny_call ?_); walk_at "1 enter")) | walk_at "1 step"))
  rename Fr _ _ _ _ => lF
  rename News _ _ _ _ => lN
  refine' fbytes (σ := SD) (fun c => (_, listOf (List.toArray c.vo) c.co) :: news) (fun c => [(Str.ofString "quad_pos", Value.int c.q c.tq), (Str.ofString "leftchar", Value.int c.lc c.tlc), (Str.ofString "pads", Value.int 0 c.tp), (Str.ofString "i", Value.int c.iv c.ti), (Str.ofString "out", Value.ref _), (Str.ofString "strict_mode", Value.bool false)])
    (fun i c => IntsAre c.vo c.out ∧ (c.q, c.lc, c.out) = decN (l.map fun (x : Nat) => b64v (x : Int)) i)
    ⟨0, _, 0, _, _, 0, _, [], _, []⟩ (bInts_bA (by intro x hx; obtain ⟨y, hy, rfl⟩ := List.mem_map.mp hx; have := hr y hy; omega)) rfl lF lN ?hk ?hp ?ht ?hd
  case hk => kst_all
  case hp => exact ⟨.nil, rfl⟩
  case hd =>
    clear lF lN
    rintro ⟨q, tq, lc, tlc, tp, iv, ti, vo, co, out⟩ u' h' tk' ⟨hI, hE⟩ F' N'
    dsimp only [kstB] at F' hI hE N' ⊢
    rw [List.length_map, hl] at hE
    obtain ⟨q7, q8, q9, q10⟩ := decN_ok hvs 12 (by omega)
    rw [← hE] at q7 q8 q9 q10 hret
    dsimp only at q7 q8 q9 q10 hret
    have e0 : q = 0 := q7
    subst e0
    have hvl2 : vo.length ≤ 12 := by rw [hI.length]; omega
    repeat' (first | (((with_reducible show wpAny _ _ (call (Value.type _) [_]) _ _ _); first | (refine call_type_of (typeIs_bytes _ _ _) (by decide) ?_) | (refine call_type_of (typeIs_str _ _ _) (by decide) ?_) | (refine call_type_of (typeIs_bool _ _) (by decide) ?_) | (refine call_type_of (typeIs_int _ _ _) (by decide) ?_))) | (((with_reducible show wpAny _ _ (call (Value.ref _) _ _) _ _ _); k_here; (refine wpAny_call ?_); walk_at "1 enter")) | walk_at "1 step")
    refine' bytes_K (ns := out) ?F ?N ?l ?i ?r ?z ?h ?_
    case F => k_asm
    case N => k_asm
    case l => is_list
    case i => exact hI
    case r => (rw [show out = (decN (l.map fun (x : Nat) => b64v (x : Int)) 12).2.2 by rw [← hE]]; exact (decN_in hvs 12 (by omega)).2.2)
    case z => (rw [sizeLine_eq]; omega)
    case h => rfl
    intro h' t' k' F' N' _
    repeat' (first | (((with_reducible show wpAny _ _ (call (Value.type _) [_]) _ _ _); first | (refine call_type_of (typeIs_bytes _ _ _) (by decide) ?_) | (refine call_type_of (typeIs_str _ _ _) (by decide) ?_) | (refine call_type_of (typeIs_bool _ _) (by decide) ?_) | (refine call_type_of (typeIs_int _ _ _) (by decide) ?_))) | (((with_reducible show wpAny _ _ (call (Value.ref _) _ _) _ _ _); k_here; (refine wpAny_call ?_); walk_at "1 enter")) | walk_at "1 step")
    rename News _ _ _ _ => lN
    first | exact hret _ _ _ (by k_asm) (by k_asm) | exact hret _ _ _ (by k_asm) (fun p hp => lN p (.tail _ hp))
  case ht =>
    clear lF lN
    rintro ⟨q, tq, lc, tlc, tp, iv, ti, vo, co, out⟩ i n t u' h' tk' own hi hoff ⟨hI, hE⟩ F' N'
    dsimp only [kstB] at F' hI hE ⊢
    simp only [List.cons_append] at N'
    obtain ⟨x, hx, rfl⟩ : ∃ x ∈ l, (x : Int) = n := by
      obtain ⟨y, hy, e⟩ := List.mem_map.mp (List.mem_of_getElem? hi)
      exact ⟨y, hy, e⟩
    have hx1 := hr x hx
    have hx2 := hv x hx
    have hx3 : (x : Int) ≠ 61 := fun e => by rw [e] at hx2; revert hx2; decide
    have hi12 : i < 12 := by
      have := (List.getElem?_eq_some_iff.mp hi).1
      rw [List.length_map, hl] at this
      exact this
    obtain ⟨q7, q8, q9, q10⟩ := decN_ok hvs i (by omega)
    rw [← hE] at q7 q8 q9 q10
    dsimp only at q7 q8 q9 q10
    have hgn : (l.map (fun (x : Nat) => b64v (x : Int))).getD i 0 = b64v (x : Int) := by
      rw [List.getElem?_map, Option.map_eq_some_iff] at hi
      obtain ⟨y, hy, e⟩ := hi
      have : y = x := by omega
      subst this
      simp [hy]
    have hst : decN (l.map (fun (x : Nat) => b64v (x : Int))) (i + 1) = stepD (q, lc, out) (b64v (x : Int)) := by rw [decN, ← hE, hgn]
    have hvl2 : vo.length ≤ 12 := by rw [hI.length]; omega
    have hall : ∀ p ∈ news ++ own, p.1 ≠ _ := List.forall_mem_append.mpr ⟨fun p hp => Nat.ne_of_lt (hlD p hp), hoff.ne (.head _)⟩
    have q5 : q = 0 ∨ q = 1 ∨ q = 2 ∨ q = 3 := by omega
    rcases q5 with rfl | rfl | rfl | rfl
    · skip
      repeat' ((fail_if_success (with_reducible show wpAny _ _ (call (Value.ref 84) _) _ _ _)); (first | (((with_reducible show wpAny _ _ (call (Value.type _) [_]) _ _ _); first | (refine call_type_of (typeIs_bytes _ _ _) (by decide) ?_) | (refine call_type_of (typeIs_str _ _ _) (by decide) ?_) | (refine call_type_of (typeIs_bool _ _) (by decide) ?_) | (refine call_type_of (typeIs_int _ _ _) (by decide) ?_))) | (((with_reducible show wpAny _ _ (call (Value.ref _) _ _) _ _ _); k_here; (refine wpAny_call ?_); walk_at "1 enter")) | walk_at "1 step"))
      k_dflt (refine' c_val _ _ _ _ _ _ _ (by omega) _ _ _ _ _ _ _ _ _ _ _ _ _ _ _ _ _ (by k_asm) (by k_asm) (by k_asm) (by k_asm) (by k_asm) rfl (by ktr_room) (by ktr_units) ?_)
      clear N' F'
      intro t9 h9 tk9 F' N'
      clear hgn
      generalize b64v (x : Int) = v at hst hx2 F' N' ⊢
      dsimp only
      repeat' (first | (((with_reducible show wpAny _ _ (call (Value.type _) [_]) _ _ _); first | (refine call_type_of (typeIs_bytes _ _ _) (by decide) ?_) | (refine call_type_of (typeIs_str _ _ _) (by decide) ?_) | (refine call_type_of (typeIs_bool _ _) (by decide) ?_) | (refine call_type_of (typeIs_int _ _ _) (by decide) ?_))) | (((with_reducible show wpAny _ _ (call (Value.ref _) _ _) _ _ _); k_here; (refine wpAny_call ?_); walk_at "1 enter")) | walk_at "1 step")
      rename Fr _ _ _ _ => lF
      rename News _ _ _ _ => lN
      refine' FEnd.mk ⟨_, _, _, _, _, _, _, _, _, _⟩ lF lN ?n5 ?o5 rfl ?k5 ⟨?a5, ?b5⟩
      case n5 => (dsimp only; refine List.forall_mem_cons.mpr ⟨?_, fun p hp => .tail _ (List.mem_append_left _ hp)⟩; exact List.mem_cons_self)
      case o5 => exact fun p hp => .tail _ (List.mem_append_right _ hp)
      case k5 => kst_all
      case a5 => exact hI
      case b5 => (rw [hst]; rfl)
    · skip
      repeat' ((fail_if_success (with_reducible show wpAny _ _ (call (Value.ref 84) _) _ _ _)); (first | (((with_reducible show wpAny _ _ (call (Value.type _) [_]) _ _ _); first | (refine call_type_of (typeIs_bytes _ _ _) (by decide) ?_) | (refine call_type_of (typeIs_str _ _ _) (by decide) ?_) | (refine call_type_of (typeIs_bool _ _) (by decide) ?_) | (refine call_type_of (typeIs_int _ _ _) (by decide) ?_))) | (((with_reducible show wpAny _ _ (call (Value.ref _) _ _) _ _ _); k_here; (refine wpAny_call ?_); walk_at "1 enter")) | walk_at "1 step"))
      k_dflt (refine' c_val _ _ _ _ _ _ _ (by omega) _ _ _ _ _ _ _ _ _ _ _ _ _ _ _ _ _ (by k_asm) (by k_asm) (by k_asm) (by k_asm) (by k_asm) rfl (by ktr_room) (by ktr_units) ?_)
      clear N' F'
      intro t9 h9 tk9 F' N'
      clear hgn
      generalize b64v (x : Int) = v at hst hx2 F' N' ⊢
      dsimp only
      repeat' (first | (((with_reducible show wpAny _ _ (call (Value.type _) [_]) _ _ _); first | (refine call_type_of (typeIs_bytes _ _ _) (by decide) ?_) | (refine call_type_of (typeIs_str _ _ _) (by decide) ?_) | (refine call_type_of (typeIs_bool _ _) (by decide) ?_) | (refine call_type_of (typeIs_int _ _ _) (by decide) ?_))) | (((with_reducible show wpAny _ _ (call (Value.ref _) _ _) _ _ _); k_here; (refine wpAny_call ?_); walk_at "1 enter")) | walk_at "1 step")
      rename Fr _ _ _ _ => lF
      rename News _ _ _ _ => lN
      simp only [List.push_toArray] at lN
      refine' FEnd.mk ⟨_, _, _, _, _, _, _, _, _, _⟩ lF lN ?n6 ?o6 rfl ?k6 ⟨?a6, ?b6⟩
      case n6 => (dsimp only; refine List.forall_mem_cons.mpr ⟨?_, fun p hp => .tail _ (List.mem_append_left _ hp)⟩; exact List.mem_cons_self)
      case o6 => exact fun p hp => .tail _ (List.mem_append_right _ hp)
      case k6 => kst_all
      case a6 => exact ints_app hI (.cons _ _ .nil)
      case b6 => (dsimp only; rw [hst, bo1 q8 hx2, bitAnd_m4]; rfl)
    · skip
      repeat' ((fail_if_success (with_reducible show wpAny _ _ (call (Value.ref 84) _) _ _ _)); (first | (((with_reducible show wpAny _ _ (call (Value.type _) [_]) _ _ _); first | (refine call_type_of (typeIs_bytes _ _ _) (by decide) ?_) | (refine call_type_of (typeIs_str _ _ _) (by decide) ?_) | (refine call_type_of (typeIs_bool _ _) (by decide) ?_) | (refine call_type_of (typeIs_int _ _ _) (by decide) ?_))) | (((with_reducible show wpAny _ _ (call (Value.ref _) _ _) _ _ _); k_here; (refine wpAny_call ?_); walk_at "1 enter")) | walk_at "1 step"))
      k_dflt (refine' c_val _ _ _ _ _ _ _ (by omega) _ _ _ _ _ _ _ _ _ _ _ _ _ _ _ _ _ (by k_asm) (by k_asm) (by k_asm) (by k_asm) (by k_asm) rfl (by ktr_room) (by ktr_units) ?_)
      clear N' F'
      intro t9 h9 tk9 F' N'
      clear hgn
      generalize b64v (x : Int) = v at hst hx2 F' N' ⊢
      dsimp only
      repeat' (first | (((with_reducible show wpAny _ _ (call (Value.type _) [_]) _ _ _); first | (refine call_type_of (typeIs_bytes _ _ _) (by decide) ?_) | (refine call_type_of (typeIs_str _ _ _) (by decide) ?_) | (refine call_type_of (typeIs_bool _ _) (by decide) ?_) | (refine call_type_of (typeIs_int _ _ _) (by decide) ?_))) | (((with_reducible show wpAny _ _ (call (Value.ref _) _ _) _ _ _); k_here; (refine wpAny_call ?_); walk_at "1 enter")) | walk_at "1 step")
      rename Fr _ _ _ _ => lF
      rename News _ _ _ _ => lN
      simp only [List.push_toArray] at lN
      refine' FEnd.mk ⟨_, _, _, _, _, _, _, _, _, _⟩ lF lN ?n7 ?o7 rfl ?k7 ⟨?a7, ?b7⟩
      case n7 => (dsimp only; refine List.forall_mem_cons.mpr ⟨?_, fun p hp => .tail _ (List.mem_append_left _ hp)⟩; exact List.mem_cons_self)
      case o7 => exact fun p hp => .tail _ (List.mem_append_right _ hp)
      case k7 => kst_all
      case a7 => exact ints_app hI (.cons _ _ .nil)
      case b7 => (dsimp only; rw [hst, bo2 q8 hx2, bitAnd_m2]; rfl)
    · skip
      repeat' ((fail_if_success (with_reducible show wpAny _ _ (call (Value.ref 84) _) _ _ _)); (first | (((with_reducible show wpAny _ _ (call (Value.type _) [_]) _ _ _); first | (refine call_type_of (typeIs_bytes _ _ _) (by decide) ?_) | (refine call_type_of (typeIs_str _ _ _) (by decide) ?_) | (refine call_type_of (typeIs_bool _ _) (by decide) ?_) | (refine call_type_of (typeIs_int _ _ _) (by decide) ?_))) | (((with_reducible show wpAny _ _ (call (Value.ref _) _ _) _ _ _); k_here; (refine wpAny_call ?_); walk_at "1 enter")) | walk_at "1 step"))
      k_dflt (refine' c_val _ _ _ _ _ _ _ (by omega) _ _ _ _ _ _ _ _ _ _ _ _ _ _ _ _ _ (by k_asm) (by k_asm) (by k_asm) (by k_asm) (by k_asm) rfl (by ktr_room) (by ktr_units) ?_)
      clear N' F'
      intro t9 h9 tk9 F' N'
      clear hgn
      generalize b64v (x : Int) = v at hst hx2 F' N' ⊢
      dsimp only
      repeat' (first | (((with_reducible show wpAny _ _ (call (Value.type _) [_]) _ _ _); first | (refine call_type_of (typeIs_bytes _ _ _) (by decide) ?_) | (refine call_type_of (typeIs_str _ _ _) (by decide) ?_) | (refine call_type_of (typeIs_bool _ _) (by decide) ?_) | (refine call_type_of (typeIs_int _ _ _) (by decide) ?_))) | (((with_reducible show wpAny _ _ (call (Value.ref _) _ _) _ _ _); k_here; (refine wpAny_call ?_); walk_at "1 enter")) | walk_at "1 step")
      rename Fr _ _ _ _ => lF
      rename News _ _ _ _ => lN
      simp only [List.push_toArray] at lN
      refine' FEnd.mk ⟨_, _, _, _, _, _, _, _, _, _⟩ lF lN ?n8 ?o8 rfl ?k8 ⟨?a8, ?b8⟩
      case n8 => (dsimp only; refine List.forall_mem_cons.mpr ⟨?_, fun p hp => .tail _ (List.mem_append_left _ hp)⟩; exact List.mem_cons_self)
      case o8 => exact fun p hp => .tail _ (List.mem_append_right _ hp)
      case k8 => kst_all
      case a8 => exact ints_app hI (.cons _ _ .nil)
      case b8 => (dsimp only; rw [hst, bo3 q8 hx2]; rfl)
end
section
theorem nums_are : ∀ {vs : List Value}, (∀ v ∈ vs, ∃ n t, v = Value.int n t) → IntsAre vs (numsOf vs)
  | [], _ => .nil
  | v :: r, h => by
    obtain ⟨n, t, rfl⟩ := h v (.head _)
    exact .cons n t (nums_are fun v hv => h v (.tail _ hv))
theorem pick_ints {vs : List Value} {ns : List Int} {a b c : Option Int} (hI : IntsAre vs ns) : IntsAre (slicePick (List.toArray vs) a b c).toList (numsOf (slicePick (List.toArray vs) a b c).toList) := by
  refine nums_are fun v hv => ?_
  unfold slicePick at hv
  rw [List.mem_filterMap] at hv
  obtain ⟨i, _, hi⟩ := hv
  obtain ⟨k, t, e, _⟩ := IntsAre.at hI i v (by simpa using hi)
  exact ⟨k, t, e⟩
noncomputable def cutSum (vs : List Value) (k : Int) : Int := (numsOf (slicePick (List.toArray vs) (some k) none (some 15)).toList).sum
theorem sum_pick {prog : Program} {w : World} {A : Around} {E : Value → Shared → Prop} {s : Shared} {h₀ : Heap} {L : Addr} {m : Str → Option Value} {news : List (Addr × Obj)} {l : Addr} {vs : List Value} {ns : List Int} {k : Int} {Q : Value → Shared → Prop}
    (hh : A.handled = none) (F : Fr h₀ L s.heap m) (N : News h₀ L s.heap news) (hl : s.heap.IsList l (slicePick (List.toArray vs) (some k) none (some 15))) (hi : IntsAre vs ns)
    (h : ∀ h' tk t', Fr h₀ L h' m → News h₀ L h' news → Q (.int (cutSum vs k) t') { s with heap := h', toks := tk }) :
    wpAny (model prog w) A (call (.builtin "sum") [.ref l]) Q E s := by
  have hl' : s.heap.IsList l (List.toArray (slicePick (List.toArray vs) (some k) none (some 15)).toList) := by rw [Array.toArray_toList]; exact hl
  exact sumK hh F N hl' (pick_ints hi) h
end
section
theorem fits_small {i : Int} (h0 : -100000 ≤ i) (h1 : i ≤ 100000) : Builtin.List.listFitsIndex i = true := by
  unfold Builtin.List.listFitsIndex
  rw [Bool.and_eq_true, decide_eq_true_eq, decide_eq_true_eq]
  constructor <;> omega
theorem seq_at {i : Int} {n : Nat} (h0 : 0 ≤ i) (h1 : i < n) : seqIndex? i n = some i.toNat := by
  unfold seqIndex?
  simp only [show ¬ i < 0 by omega, if_false]
  first | (rw [if_pos (by omega)]) | (rw [if_neg (by omega)]) | (simp; omega)
section
variable {prog : Program} {w : World} {A : Around} {E : Value → Shared → Prop} {s : Shared} {h₀ : Heap} {L D : Addr} {m : Str → Option Value} {news news' : List (Addr × Obj)} {n : Nat}
theorem l_popAt {vs : List Value} {i : Int} {u : Tok} {v : Value} {Q : Value → Shared → Prop} (F : Fr h₀ L s.heap m) (N : News h₀ L s.heap news) (U : Upd D (listOf (List.toArray vs) n) (listOf (List.toArray (vs.eraseIdx i.toNat)) (n + 1)) news news')
    (h0 : 0 ≤ i) (hv : vs[i.toNat]? = some v) (hz : vs.length ≤ 100000) (h : ∀ h', Fr h₀ L h' m → News h₀ L h' news' → Q v { s with heap := h' }) : wpAny (model prog w) A (call (.builtin "list.pop") [.ref D, .int i u]) Q E s := by
  have hlt : i.toNat < vs.length := (List.getElem?_eq_some_iff.mp hv).1
  obtain ⟨pre, post, rfl, rfl, a, b⟩ := U.split
  have z := N (D, listOf (List.toArray vs) n) (List.mem_append.mpr (.inr (.head _)))
  have hz' : (List.toArray vs).size ≤ sizeLine := by rw [List.size_toArray, sizeLine_eq]; omega
  refine call_meets PySem.F.slot_list_pop ⟨_, z.1, rfl⟩ PySem.F.entry_list_pop (PySem.F.args_list_pop_2 _ _) (PySem.MeetsSeq.list_pop_at D _ n i u i.toNat v (fits_small (by omega) (by omega)) (seq_at h0 (by rw [List.size_toArray]; omega)) (by simpa using hv) hz') ⟨z.1, h _ (F.change (Heap.SameBut.update ..) z.2.1 z.2.2) (kl_turn _ N a b ?_ ?_)⟩
  · have e : vs.eraseIdx i.toNat = vs.take i.toNat ++ vs.drop (i.toNat + 1) := List.eraseIdx_eq_take_drop_succ vs i.toNat
    rw [e]
    have e2 := kl_erase (vs.take i.toNat) (vs.drop (i.toNat + 1)) vs[i.toNat]
    rw [List.getElem_cons_drop hlt, List.take_append_drop, List.length_take, Nat.min_eq_left (Nat.le_of_lt hlt)] at e2
    exact e2
  · rw [List.size_toArray, List.size_toArray, List.length_eraseIdx, if_pos hlt]
    omega
end
section
variable {prog : Program} {w : World} {A : Around} {E : Value → Shared → Prop} {s : Shared} {env : Env} {h₀ : Heap} {x : Str} {body : List Stmt} {Q : Flow → Shared → Prop}
theorem flist {σ : Type} {l : Addr} {vs : List Value} {ks : List Int} {nn : Nat} {m₀ : Str → Option Value} (Led : σ → List (Addr × Obj)) (ps : σ → List (Str × Value)) (P : Nat → σ → Prop) (c₀ : σ)
    (hl : ∀ c, (l, listOf (List.toArray vs) nn) ∈ Led c) (hi : IntsAre vs ks) (hh : A.handled = none) (F : Fr h₀ env.locals s.heap m₀) (N : News h₀ env.locals s.heap (Led c₀)) (hk : ∀ p ∈ ps c₀, m₀ p.1 = some p.2) (hp : P 0 c₀)
    (turn : ∀ (c : σ) (i : Nat) (n : Int) t (u : Str → Option Value) h tk own, ks[i]? = some n → OwnOff own ((Led c₀).map (·.1)) → P i c →
      Fr h₀ env.locals h (fun y => if y = x then some (.int n t) else kstB u (ps c) y) → News h₀ env.locals h (Led c ++ own) →
      wpAny (model prog w) A (execs body env) (InvPostN h₀ env.locals (FJ Led ps P (i + 1)) own ((Led c₀).map (·.1)) { s with heap := h, toks := tk } Q) E { s with heap := h, toks := tk })
    (done : ∀ (c : σ) (u : Str → Option Value) h tk, P ks.length c → Fr h₀ env.locals h (kstB u (ps c)) → News h₀ env.locals h (Led c) → Q .next { s with heap := h, toks := tk }) :
    wpAny (model prog w) A (pyIter (.ref l)) (fun it s₂ => LoopAtV prog w A h₀ env x body Q E it s₂) E s := by
  refine iter_invNL (FJ Led ps P) hh (hl c₀) hi F N ⟨c₀, rfl, hk, hp⟩ ?_ ?_
  · rintro i n t m₁ nx h tk own hi _ hoff _ ⟨c, rfl, h1, hp'⟩ F₁ N₁
    refine wpAny_mono (turn c i n t m₁ h tk own hi hoff hp' (fr_off h1 F₁) N₁) (fun f s₂ p => ?_) fun _ _ e => e
    have up : InvEndN h₀ env.locals (FJ Led ps P (i + 1)) own ((Led c₀).map (·.1)) { s with heap := h, toks := tk } s₂ →
        InvEndN h₀ env.locals (fun m' nx => (l, listOf (List.toArray vs) nn) ∈ nx ∧ FJ Led ps P (i + 1) m' nx) own ((Led c₀).map (·.1)) { s with heap := h, toks := tk } s₂ := by
      rintro ⟨h', tk', m', news', nx, e, F', N', hn, ho, ha, hJ⟩
      refine ⟨h', tk', m', news', nx, e, F', N', hn, ho, ha, ?_, hJ⟩
      obtain ⟨c', e', _⟩ := hJ
      rw [e']; exact hl c'
    cases f with
    | ret v => exact p
    | brk => exact p
    | next => exact up p
    | cont => exact up p
  · rintro m₁ nx h tk _ ⟨c, rfl, h1, hp'⟩ F₁ N₁
    exact done c m₁ h tk hp' (by rw [kstB_self h1]; exact F₁) N₁
end
noncomputable def kd (f : Int) : Int := if f < 26 then f else f - 26
noncomputable def PK (i : Nat) (nk nf : List Int) : Prop := nk.length + i = 38 ∧ nf.length = i ∧ (nf.map kd ++ nk).Nodup ∧ (∀ x ∈ nk, 0 ≤ x ∧ x < 38) ∧ ∀ f ∈ nf, 0 ≤ f ∧ f < 64
theorem PK_step {i : Nat} {nk nf : List Int} {j : Nat} {k f : Int} (h : PK i nk nf) (hk : nk[j]? = some k) (hf : f = k + 26 ∨ (f = k ∧ ¬ 25 < k)) : PK (i + 1) (nk.eraseIdx j) (nf ++ [f]) := by
  obtain ⟨a, b, c, d, e⟩ := h
  obtain ⟨hj, hjk⟩ := List.getElem?_eq_some_iff.mp hk
  have hmem : k ∈ nk := List.mem_of_getElem? hk
  have hkb := d k hmem
  have hkd : kd f = k := by unfold kd; split <;> omega
  refine ⟨by rw [List.length_eraseIdx, if_pos hj]; omega, by simp [b], ?_, fun x hx => d x (List.mem_of_mem_eraseIdx hx), fun g hg => ?_⟩
  · rw [List.map_append, List.map_singleton, hkd, List.append_assoc]
    have p : (k :: nk.eraseIdx j).Perm nk := by
      rw [List.eraseIdx_eq_take_drop_succ]
      have : nk = nk.take j ++ k :: nk.drop (j + 1) := by
        rw [← hjk, List.getElem_cons_drop hj, List.take_append_drop]
      conv => rhs; rw [this]
      exact List.perm_middle.symm
    exact ((p.append_left (nf.map kd)).nodup_iff).mpr c
  · rcases List.mem_append.mp hg with hg | hg
    · exact e g hg
    · rw [List.mem_singleton.mp hg]; omega
theorem ints_erase : ∀ {vs : List Value} {ns : List Int}, IntsAre vs ns → ∀ j : Nat, IntsAre (vs.eraseIdx j) (ns.eraseIdx j)
  | _, _, .nil, j => by simp; exact .nil
  | _, _, .cons n t h, 0 => by simpa using h
  | _, _, .cons n t h, j + 1 => by simpa using IntsAre.cons n t (ints_erase h j)
end
section
theorem sig_c : ∀ k : Fin 64, ((sig (k.val : Int) : Nat) : Int) = b64c (k.val : Int) := by decide +kernel
theorem sig_lt : ∀ a : Fin 64, sig (a.val : Int) < 128 := by decide +kernel
noncomputable def lowN (a : Nat) : Nat := if a < 26 then 97 + a else if a < 52 then 71 + a else if a < 62 then a - 4 else if a = 62 then 43 else 47
theorem low_sig : ∀ a : Fin 64, Txt.lower (S [sig (a.val : Int)]) = S [lowN a.val] := by decide +kernel
theorem fin_of {k : Int} (h : 0 ≤ k ∧ k < 64) : ∃ a : Fin 64, k = (a.val : Int) := ⟨⟨k.toNat, by omega⟩, by simp; omega⟩
theorem sig_b64 {k : Int} (h : 0 ≤ k ∧ k < 64) : ((sig k : Nat) : Int) = b64c k := by
  obtain ⟨a, rfl⟩ := fin_of h; exact sig_c a
theorem sig_ascii {k : Int} (h : 0 ≤ k ∧ k < 64) : sig k < 128 := by
  obtain ⟨a, rfl⟩ := fin_of h; exact sig_lt a
theorem sig_val {k : Int} (h : 0 ≤ k ∧ k < 64) : b64v ((sig k : Nat) : Int) = k := by
  rw [sig_b64 h]; obtain ⟨a, rfl⟩ := fin_of h; exact b64v_c a
theorem enc_grp {l f0 f1 f2 f3 : Int} (out : List Int) (hl : 0 ≤ l) (h0 : 0 ≤ f0 ∧ f0 < 64) (h1 : 0 ≤ f1 ∧ f1 < 64) (h2 : 0 ≤ f2 ∧ f2 < 64) (h3 : 0 ≤ f3 ∧ f3 < 64) :
    ∃ l', 0 ≤ l' ∧ stepE (stepE (stepE (0, l, out) ((((f0 * 64 + f1) * 64 + f2) * 64 + f3) / 65536)) ((((f0 * 64 + f1) * 64 + f2) * 64 + f3) / 256 % 256)) ((((f0 * 64 + f1) * 64 + f2) * 64 + f3) % 256)
      = (0, l', out ++ [b64c f0, b64c f1, b64c f2, b64c f3]) := by
  generalize hn : ((f0 * 64 + f1) * 64 + f2) * 64 + f3 = n
  refine ⟨(((l * 256 + n / 65536) % 65536 * 256 + n / 256 % 256) % 65536 * 256 + n % 256) % 65536, by omega, ?_⟩
  simp only [stepE, show ¬ ((2 : Int) = 0) by decide, show ¬ ((4 : Int) = 0) by decide, show ¬ ((4 : Int) = 2) by decide, if_true, if_false, List.append_assoc, List.singleton_append, List.cons_append, List.nil_append]
  have e0 : (l * 256 + n / 65536) % 65536 / 4 % 64 = f0 := by omega
  have e1 : ((l * 256 + n / 65536) % 65536 * 256 + n / 256 % 256) % 65536 / 16 % 64 = f1 := by omega
  have e2 : (((l * 256 + n / 65536) % 65536 * 256 + n / 256 % 256) % 65536 * 256 + n % 256) % 65536 / 64 % 64 = f2 := by omega
  have e3 : (((l * 256 + n / 65536) % 65536 * 256 + n / 256 % 256) % 65536 * 256 + n % 256) % 65536 % 64 = f3 := by omega
  rw [e0, e1, e2, e3]
theorem enc_oct {f0 f1 f2 f3 f4 f5 f6 f7 f8 f9 f10 f11 : Int} (b0 : 0 ≤ f0 ∧ f0 < 64) (b1 : 0 ≤ f1 ∧ f1 < 64) (b2 : 0 ≤ f2 ∧ f2 < 64) (b3 : 0 ≤ f3 ∧ f3 < 64) (b4 : 0 ≤ f4 ∧ f4 < 64) (b5 : 0 ≤ f5 ∧ f5 < 64) (b6 : 0 ≤ f6 ∧ f6 < 64) (b7 : 0 ≤ f7 ∧ f7 < 64) (b8 : 0 ≤ f8 ∧ f8 < 64) (b9 : 0 ≤ f9 ∧ f9 < 64) (b10 : 0 ≤ f10 ∧ f10 < 64) (b11 : 0 ≤ f11 ∧ f11 < 64) :
    (encN (octL f0 f1 f2 f3 ++ octL f4 f5 f6 f7 ++ octL f8 f9 f10 f11) 9).2.2 = ([f0, f1, f2, f3, f4, f5, f6, f7, f8, f9, f10, f11].map sig).map fun (c : Nat) => (c : Int) := by
  obtain ⟨l1, p1, e1⟩ := enc_grp [] (Int.le_refl 0) b0 b1 b2 b3
  obtain ⟨l2, p2, e2⟩ := enc_grp ([] ++ [b64c f0, b64c f1, b64c f2, b64c f3]) p1 b4 b5 b6 b7
  obtain ⟨l3, p3, e3⟩ := enc_grp (([] ++ [b64c f0, b64c f1, b64c f2, b64c f3]) ++ [b64c f4, b64c f5, b64c f6, b64c f7]) p2 b8 b9 b10 b11
  have e : encN (octL f0 f1 f2 f3 ++ octL f4 f5 f6 f7 ++ octL f8 f9 f10 f11) 9 = (0, l3, (([] ++ [b64c f0, b64c f1, b64c f2, b64c f3]) ++ [b64c f4, b64c f5, b64c f6, b64c f7]) ++ [b64c f8, b64c f9, b64c f10, b64c f11]) := by
    rw [← e3, ← e2, ← e1]; rfl
  rw [e]
  simp only [List.map_cons, List.map_nil, sig_b64 b0, sig_b64 b1, sig_b64 b2, sig_b64 b3, sig_b64 b4, sig_b64 b5, sig_b64 b6, sig_b64 b7, sig_b64 b8, sig_b64 b9, sig_b64 b10, sig_b64 b11]
  rfl
theorem dec_grp {f0 f1 f2 f3 : Int} (out : List Int) (h0 : 0 ≤ f0 ∧ f0 < 64) (h1 : 0 ≤ f1 ∧ f1 < 64) (h2 : 0 ≤ f2 ∧ f2 < 64) (h3 : 0 ≤ f3 ∧ f3 < 64) (l : Int) :
    stepD (stepD (stepD (stepD (0, l, out) f0) f1) f2) f3 = (0, 0, out ++ octL f0 f1 f2 f3) := by
  simp only [stepD, show ¬ ((1 : Int) = 0) by decide, show ¬ ((2 : Int) = 0) by decide, show ¬ ((2 : Int) = 1) by decide, show ¬ ((3 : Int) = 0) by decide, show ¬ ((3 : Int) = 1) by decide, show ¬ ((3 : Int) = 2) by decide, if_true, if_false, List.append_assoc, List.singleton_append, List.cons_append, List.nil_append, octL]
  congr 4
  · omega
  · congr 1
    · omega
    · congr 1
      omega
theorem dec_oct {f0 f1 f2 f3 f4 f5 f6 f7 f8 f9 f10 f11 : Int} (b0 : 0 ≤ f0 ∧ f0 < 64) (b1 : 0 ≤ f1 ∧ f1 < 64) (b2 : 0 ≤ f2 ∧ f2 < 64) (b3 : 0 ≤ f3 ∧ f3 < 64) (b4 : 0 ≤ f4 ∧ f4 < 64) (b5 : 0 ≤ f5 ∧ f5 < 64) (b6 : 0 ≤ f6 ∧ f6 < 64) (b7 : 0 ≤ f7 ∧ f7 < 64) (b8 : 0 ≤ f8 ∧ f8 < 64) (b9 : 0 ≤ f9 ∧ f9 < 64) (b10 : 0 ≤ f10 ∧ f10 < 64) (b11 : 0 ≤ f11 ∧ f11 < 64) :
    (decN (([f0, f1, f2, f3, f4, f5, f6, f7, f8, f9, f10, f11].map sig).map fun (x : Nat) => b64v (x : Int)) 12).2.2 = octL f0 f1 f2 f3 ++ octL f4 f5 f6 f7 ++ octL f8 f9 f10 f11 := by
  simp only [List.map_cons, List.map_nil, sig_val b0, sig_val b1, sig_val b2, sig_val b3, sig_val b4, sig_val b5, sig_val b6, sig_val b7, sig_val b8, sig_val b9, sig_val b10, sig_val b11]
  have e : decN [f0, f1, f2, f3, f4, f5, f6, f7, f8, f9, f10, f11] 12 = (0, 0, (([] ++ octL f0 f1 f2 f3) ++ octL f4 f5 f6 f7) ++ octL f8 f9 f10 f11) := by
    rw [← dec_grp _ b8 b9 b10 b11 0, ← dec_grp _ b4 b5 b6 b7 0, ← dec_grp _ b0 b1 b2 b3 0]; rfl
  rw [e]; rfl
theorem oct_r {f0 f1 f2 f3 : Int} (h0 : 0 ≤ f0 ∧ f0 < 64) (h1 : 0 ≤ f1 ∧ f1 < 64) (h2 : 0 ≤ f2 ∧ f2 < 64) (h3 : 0 ≤ f3 ∧ f3 < 64) : ∀ x ∈ octL f0 f1 f2 f3, 0 ≤ x ∧ x < 256 := oct_in (by omega) (by omega)
noncomputable def Figs (nf : List Int) : Prop := nf.length = 12 ∧ (nf.map kd).Nodup ∧ ∀ f ∈ nf, 0 ≤ f ∧ f < 64
theorem PK_figs {nk nf : List Int} (h : PK 12 nk nf) : Figs nf := ⟨h.2.1, (List.nodup_append.mp h.2.2.1).1, h.2.2.2.2⟩
noncomputable def rowOf (nf : List Int) : List Int := octL (nf.getD 0 0) (nf.getD 1 0) (nf.getD 2 0) (nf.getD 3 0) ++ octL (nf.getD 4 0) (nf.getD 5 0) (nf.getD 6 0) (nf.getD 7 0) ++ octL (nf.getD 8 0) (nf.getD 9 0) (nf.getD 10 0) (nf.getD 11 0)
theorem list12 {α : Type} {l : List α} (h : l.length = 12) : ∃ a b c d e f g i j k m n, l = [a, b, c, d, e, f, g, i, j, k, m, n] := by
  match l, h with
  | [a, b, c, d, e, f, g, i, j, k, m, n], _ => exact ⟨a, b, c, d, e, f, g, i, j, k, m, n, rfl⟩
theorem enc_row {nf : List Int} (h : Figs nf) : (encN (rowOf nf) 9).2.2 = (nf.map sig).map fun (c : Nat) => (c : Int) := by
  obtain ⟨hl, _, hb⟩ := h
  obtain ⟨a, b, c, d, e, f, g, i, j, k, m, n, rfl⟩ := list12 hl
  exact enc_oct (hb _ (by simp)) (hb _ (by simp)) (hb _ (by simp)) (hb _ (by simp)) (hb _ (by simp)) (hb _ (by simp)) (hb _ (by simp)) (hb _ (by simp)) (hb _ (by simp)) (hb _ (by simp)) (hb _ (by simp)) (hb _ (by simp))
theorem dec_row {nf : List Int} (h : Figs nf) : (decN ((nf.map sig).map fun (x : Nat) => b64v (x : Int)) 12).2.2 = rowOf nf := by
  obtain ⟨hl, _, hb⟩ := h
  obtain ⟨a, b, c, d, e, f, g, i, j, k, m, n, rfl⟩ := list12 hl
  exact dec_oct (hb _ (by simp)) (hb _ (by simp)) (hb _ (by simp)) (hb _ (by simp)) (hb _ (by simp)) (hb _ (by simp)) (hb _ (by simp)) (hb _ (by simp)) (hb _ (by simp)) (hb _ (by simp)) (hb _ (by simp)) (hb _ (by simp))
theorem row_in {nf : List Int} (h : Figs nf) : ∀ x ∈ rowOf nf, 0 ≤ x ∧ x < 256 := by
  obtain ⟨hl, _, hb⟩ := h
  obtain ⟨a, b, c, d, e, f, g, i, j, k, m, n, rfl⟩ := list12 hl
  intro x hx
  unfold rowOf at hx
  rw [List.mem_append, List.mem_append] at hx
  rcases hx with (hx | hx) | hx
  · exact oct_r (hb _ (by simp)) (hb _ (by simp)) (hb _ (by simp)) (hb _ (by simp)) x hx
  · exact oct_r (hb _ (by simp)) (hb _ (by simp)) (hb _ (by simp)) (hb _ (by simp)) x hx
  · exact oct_r (hb _ (by simp)) (hb _ (by simp)) (hb _ (by simp)) (hb _ (by simp)) x hx
/-- the map of the 14 places to signs -/
noncomputable def fch (nf : List Int) (i : Fin 14) : Nat := if i.val < 12 then sig (nf.getD i.val 0) else if i.val = 12 then 33 else 63
theorem low_bang : Txt.lower (S [33]) = S [33] ∧ Txt.lower (S [63]) = S [63] := by decide +kernel
theorem low_ne : ∀ a : Fin 64, lowN a.val ≠ 33 ∧ lowN a.val ≠ 63 := by decide +kernel
theorem low_kd : ∀ a b : Fin 64, lowN a.val = lowN b.val → kd (a.val : Int) = kd (b.val : Int) := by decide +kernel
theorem fch_low {nf : List Int} (h : Figs nf) (i j : Fin 14) (hij : i ≠ j) : Txt.lower (S [fch nf i]) ≠ Txt.lower (S [fch nf j]) := by
  have key : ∀ i : Fin 14, ∃ c, Txt.lower (S [fch nf i]) = S [c] ∧ ((i.val < 12 ∧ ∃ a : Fin 64, nf.getD i.val 0 = (a.val : Int) ∧ c = lowN a.val) ∨ (i.val = 12 ∧ c = 33) ∨ (i.val = 13 ∧ c = 63)) := by
    intro i
    unfold fch
    by_cases h1 : i.val < 12
    · have hm : nf.getD i.val 0 ∈ nf := by
        have : i.val < nf.length := by rw [h.1]; exact h1
        rw [List.getD_eq_getElem?_getD, List.getElem?_eq_getElem this]; simp
      obtain ⟨a, ha⟩ := fin_of (h.2.2 _ hm)
      rw [if_pos h1, ha]
      exact ⟨_, low_sig a, .inl ⟨h1, a, rfl, rfl⟩⟩
    · rw [if_neg h1]
      by_cases h2 : i.val = 12
      · rw [if_pos h2]; exact ⟨_, low_bang.1, .inr (.inl ⟨h2, rfl⟩)⟩
      · rw [if_neg h2]; exact ⟨_, low_bang.2, .inr (.inr ⟨by omega, rfl⟩)⟩
  obtain ⟨c, e1, k1⟩ := key i
  obtain ⟨d, e2, k2⟩ := key j
  rw [e1, e2]
  intro e
  have e' : c = d := by have := S_inj e; simpa using this
  subst e'
  rcases k1 with ⟨i1, a, a1, a2⟩ | ⟨i1, a2⟩ | ⟨i1, a2⟩ <;> rcases k2 with ⟨j1, b, b1, b2⟩ | ⟨j1, b2⟩ | ⟨j1, b2⟩
  · have hk := low_kd a b (by rw [← a2, ← b2])
    rw [← a1, ← b1] at hk
    have n1 : i.val < nf.length := by rw [h.1]; exact i1
    have n2 : j.val < nf.length := by rw [h.1]; exact j1
    have hk2 : (nf.map kd)[i.val]'(by simpa using n1) = (nf.map kd)[j.val]'(by simpa using n2) := by simpa [List.getD_eq_getElem?_getD, n1, n2] using hk
    exact hij (Fin.ext ((List.getElem_inj h.2.1).mp hk2))
  · exact absurd (a2.symm.trans b2) (low_ne a).1
  · exact absurd (a2.symm.trans b2) (low_ne a).2
  · exact absurd (b2.symm.trans a2) (low_ne b).1
  · exact hij (Fin.ext (by omega))
  · omega
  · exact absurd (b2.symm.trans a2) (low_ne b).2
  · omega
  · exact hij (Fin.ext (by omega))
theorem fch_inj {nf : List Int} (h : Figs nf) (i j : Fin 14) (e : fch nf i = fch nf j) : i = j := by
  by_cases hij : i = j
  · exact hij
  · exact absurd (by rw [e]) (fch_low h i j hij)
theorem fch_cost {nf : List Int} (h : Figs nf) (i j : Fin 14) : substN (fch nf i) (fch nf j) = cI i j := by
  unfold substN subst cI
  by_cases hij : i = j
  · subst hij; simp
  · have h1 : S [fch nf i] ≠ S [fch nf j] := fun e => hij (fch_inj h i j (by have := S_inj e; simpa using this))
    rw [if_neg h1, if_neg (fch_low h i j hij), if_neg hij]
end
section
noncomputable def PL : List (List Int) := [[0, 2, 4, 6], [0, 1, 2, 4, 6], [0, 2, 3, 4, 6], [0, 2, 4, 5, 6]]
noncomputable abbrev tupO (p : Int) (t : Tok) (b : Bool) : Obj := { cls := Value.type "tuple", data := Data.seq #[Value.int p t, Value.bool b] }
inductive PairsAre (tl : CbLed) : List Value → List (Int × Bool) → Prop
  | nil : PairsAre tl [] []
  | cons (a : Addr) (p : Int) (t : Tok) (b : Bool) {vs : List Value} {ps : List (Int × Bool)} (hm : (a, tupO p t b) ∈ tl) (h : PairsAre tl vs ps) : PairsAre tl (.ref a :: vs) ((p, b) :: ps)
theorem PairsAre.length {tl : CbLed} : ∀ {vs : List Value} {ps : List (Int × Bool)}, PairsAre tl vs ps → vs.length = ps.length
  | _, _, .nil => rfl
  | _, _, .cons _ _ _ _ _ h => by simp [h.length]
theorem PairsAre.sub {tl tl' : CbLed} (hs : ∀ p ∈ tl, p ∈ tl') : ∀ {vs : List Value} {ps : List (Int × Bool)}, PairsAre tl vs ps → PairsAre tl' vs ps
  | _, _, .nil => .nil
  | _, _, .cons a p t b hm h => .cons a p t b (hs _ hm) (h.sub hs)
theorem PairsAre.append {tl : CbLed} : ∀ {vs ws : List Value} {ps qs : List (Int × Bool)}, PairsAre tl vs ps → PairsAre tl ws qs → PairsAre tl (vs ++ ws) (ps ++ qs)
  | _, _, _, _, .nil, h => h
  | _, _, _, _, .cons a p t b hm h, h2 => .cons a p t b hm (h.append h2)
theorem PairsAre.drop {tl : CbLed} : ∀ {vs : List Value} {ps : List (Int × Bool)}, PairsAre tl vs ps → ∀ k : Nat, PairsAre tl (vs.drop k) (ps.drop k)
  | _, _, h, 0 => h
  | _, _, .nil, _ + 1 => .nil
  | _, _, .cons _ _ _ _ _ h, k + 1 => h.drop k
theorem PairsAre.take {tl : CbLed} : ∀ {vs : List Value} {ps : List (Int × Bool)}, PairsAre tl vs ps → ∀ k : Nat, PairsAre tl (vs.take k) (ps.take k)
  | _, _, _, 0 => .nil
  | _, _, .nil, _ + 1 => .nil
  | _, _, .cons a p t b hm h, k + 1 => .cons a p t b hm (h.take k)
theorem PairsAre.reverse {tl : CbLed} : ∀ {vs : List Value} {ps : List (Int × Bool)}, PairsAre tl vs ps → PairsAre tl vs.reverse ps.reverse
  | _, _, .nil => .nil
  | _, _, .cons a p t b hm h => by
    rw [List.reverse_cons, List.reverse_cons]
    exact h.reverse.append (.cons a p t b hm .nil)
theorem PairsAre.erase {tl : CbLed} : ∀ {vs : List Value} {ps : List (Int × Bool)}, PairsAre tl vs ps → ∀ k : Nat, PairsAre tl (vs.eraseIdx k) (ps.eraseIdx k)
  | _, _, .nil, k => by simp; exact .nil
  | _, _, .cons _ _ _ _ _ h, 0 => by simpa using h
  | _, _, .cons a p t b hm h, k + 1 => by simpa using PairsAre.cons a p t b hm (h.erase k)
theorem PairsAre.get {tl : CbLed} : ∀ {vs : List Value} {ps : List (Int × Bool)}, PairsAre tl vs ps → ∀ (i : Nat) (q : Int × Bool), ps[i]? = some q → ∃ a t, vs[i]? = some (.ref a) ∧ (a, tupO q.1 t q.2) ∈ tl
  | _, _, .nil, i, q, h => by simp at h
  | _, _, .cons a p t b hm _, 0, q, h => by
    have : (p, b) = q := by simpa using h
    subst this
    exact ⟨a, t, rfl, hm⟩
  | _, _, .cons _ _ _ _ _ h2, i + 1, q, h => by
    obtain ⟨a, t, e, m⟩ := h2.get i q (by simpa using h)
    exact ⟨a, t, by simpa using e, m⟩
theorem PairsAre.at {tl : CbLed} : ∀ {vs : List Value} {ps : List (Int × Bool)}, PairsAre tl vs ps → ∀ (i : Nat) (v : Value), vs[i]? = some v → ∃ a p t b, v = .ref a ∧ (a, tupO p t b) ∈ tl ∧ ps[i]? = some (p, b)
  | _, _, .nil, i, v, h => by simp at h
  | _, _, .cons a p t b hm _, 0, v, h => by
    have : Value.ref a = v := by simpa using h
    subst this
    exact ⟨a, p, t, b, rfl, hm, rfl⟩
  | _, _, .cons _ _ _ _ _ h2, i + 1, v, h => by
    obtain ⟨a, p, t, b, e, m, q⟩ := h2.at i v (by simpa using h)
    exact ⟨a, p, t, b, e, m, by simpa using q⟩
noncomputable def AllTup (tl : CbLed) : Prop := ∀ p ∈ tl, ∃ k t b, p.2 = tupO k t b
theorem AllTup.cons {tl : CbLed} {a : Addr} {k : Int} {t : Tok} {b : Bool} (h : AllTup tl) : AllTup ((a, tupO k t b) :: tl) := by
  intro p hp
  rcases List.mem_cons.mp hp with rfl | hp
  · exact ⟨k, t, b, rfl⟩
  · exact h p hp
theorem tl_cell {h₀ h : Heap} {L c : Addr} {tl news : CbLed} {o : Obj} {v : Option Value} (N : News h₀ L h news) (hs : ∀ p ∈ tl, p ∈ news) (hA : AllTup tl) (hm : (c, o) ∈ news) (hd : o.data = .cell v) : ∀ p ∈ tl, p.1 ≠ c := by
  intro p hp e
  obtain ⟨k, t, b, hk⟩ := hA p hp
  have h1 := (N _ (hs p hp)).1
  have h2 := (N _ hm).1
  rw [e] at h1
  rw [h1] at h2
  have h3 : p.2 = o := Option.some.inj h2
  rw [← h3, hk] at hd
  cases hd
theorem tl_list {h₀ h : Heap} {L c : Addr} {tl news : CbLed} {its : Array Value} {n : Nat} (N : News h₀ L h news) (hs : ∀ p ∈ tl, p ∈ news) (hA : AllTup tl) (hm : (c, listOf its n) ∈ news) : ∀ p ∈ tl, p.1 ≠ c := by
  intro p hp e
  obtain ⟨k, t, b, hk⟩ := hA p hp
  have h1 := (N _ (hs p hp)).1
  have h2 := (N _ hm).1
  rw [e] at h1
  rw [h1] at h2
  have h3 : p.2 = listOf its n := Option.some.inj h2
  rw [hk] at h3
  have h4 := congrArg Obj.cls h3
  exact absurd (Value.type.inj h4) (by decide)
theorem g_from {vs : List Value} {x : Int} (h : 0 ≤ x) : (slicePick (List.toArray vs) (some x) none none).toList = vs.drop x.toNat := by
  have e : sliceBounds (some x) none none (List.toArray vs).size = (((min x.toNat (List.toArray vs).size : Nat) : Int), (((List.toArray vs).size : Nat) : Int), 1) := by
    simp only [sliceBounds, Option.getD_none, show (1 : Int) > 0 by decide, if_true, if_neg (show ¬ (x < 0) by omega)]
    congr 1
    omega
  rw [kmk_pick_nat _ e]
  show ((vs.drop (min x.toNat (List.toArray vs).size)).take ((List.toArray vs).size - min x.toNat (List.toArray vs).size)) = _
  rw [List.size_toArray, kmk_drop_min, List.take_of_length_le (by rw [List.length_drop]; omega)]
theorem g_upto {vs : List Value} {y : Int} (h : 0 ≤ y) : (slicePick (List.toArray vs) none (some y) none).toList = vs.take y.toNat := by
  have e : sliceBounds none (some y) none (List.toArray vs).size = (((0 : Nat) : Int), ((min y.toNat (List.toArray vs).size : Nat) : Int), 1) := by
    simp only [sliceBounds, Option.getD_none, show (1 : Int) > 0 by decide, if_true, if_neg (show ¬ (y < 0) by omega)]
    congr 1
    congr 1
    omega
  rw [kmk_pick_nat _ e]
  show ((vs.drop 0).take (min y.toNat (List.toArray vs).size - 0)) = _
  rw [List.drop_zero, Nat.sub_zero, List.size_toArray, kmk_take_min]
section
variable {prog : Program} {w : World} {A : Around} {h₀ : Heap} {L : Addr} {m : Str → Option Value} {env : Env} {elt ct : Expr} {x x₂ : Str} {scope : Scope} {cl : List (Str × Addr)} {s : Shared} {SS : List (Addr × Obj) → Prop} {Fin : List Value → List (Addr × Obj) → Prop} {base : List (Addr × Obj)}
theorem tup_rest {vs : List Value} {ks : List Int} (hi : IntsAre vs ks)
    (turn : ∀ k t I oI C oC D m₂ ys h tk nw (E' : Value → Shared → Prop), LCg.NsObj oC m₂ → m₂ x = some (.int k t) → Fr h₀ L h m → News h₀ L h ((I, oI) :: (C, oC) :: (D, LCg.lst ys) :: nw) → LCg.Off3 I C D nw → ((@Ne Nat I C) ∧ (@Ne Nat I D) ∧ (@Ne Nat C D)) → (∀ p ∈ base, p ∈ nw) →
      wpAny (model prog w) A (eval elt (compEnvC scope cl C env)) (LCg.CompEnd h₀ L m { s with heap := h, toks := tk } I oI C oC D (LCg.lst ys) SS (fun y nw' => ∃ T t', y = .ref T ∧ nw' = (T, tupO k t' false) :: nw)) E' { s with heap := h, toks := tk })
    (fin : ∀ ys tl, PairsAre tl ys (ks.map fun k => (k, false)) → AllTup tl → Fin ys (tl ++ base)) : LCg.CompRest prog w A h₀ L m env elt x scope cl s SS (fun i v => (List.toArray vs)[i]? = some v) Fin (List.toArray vs).size 0 [] base := by
  have hn : (List.toArray vs).size = ks.length := by rw [List.size_toArray]; exact hi.length
  have key : ∀ (j i : Nat) (ys : List Value) (tl : CbLed), i + j = ks.length → PairsAre tl ys ((ks.take i).map fun k => (k, false)) → AllTup tl → LCg.CompRest prog w A h₀ L m env elt x scope cl s SS (fun i v => (List.toArray vs)[i]? = some v) Fin j i ys (tl ++ base) := by
    intro j
    induction j with
    | zero =>
      intro i ys tl hij hy hat
      have e : i = ks.length := by omega
      subst e
      rw [List.take_length] at hy
      exact LCg.CompRest.zero (fin ys tl hy hat)
    | succ j ih =>
      intro i ys tl hij hy hat
      refine LCg.CompRest.succ ?_
      intro v I oI C oC D m₂ h tk E' hv hC hx F N off ne
      obtain ⟨k, t, rfl, hk⟩ := IntsAre.at hi i v (by simpa using hv)
      refine wpAny_mono (turn k t I oI C oC D m₂ ys h tk (tl ++ base) E' hC hx F N off ne fun p hp => List.mem_append_right _ hp) (fun y s₂ hq => ?_) fun _ _ e => e
      obtain ⟨h', tk', nw, e, F', N', off', hS, T, t', hy', hn'⟩ := hq
      subst hn' hy'
      refine ⟨h', tk', _, e, F', N', off', hS, ?_⟩
      refine ih (i + 1) _ ((T, tupO k t' false) :: tl) (by omega) ?_ (AllTup.cons hat)
      rw [List.take_add_one, hk]
      simp only [Option.toList_some, List.map_append, List.map_cons, List.map_nil]
      exact (hy.sub fun p hp => .tail _ hp).append (.cons T k t' false (.head _) .nil)
  rw [hn]
  exact key ks.length 0 [] [] (by omega) (by simp only [List.take_zero, List.map_nil]; exact .nil) (fun _ h => nomatch h)
theorem pair_rest {vs : List Value} {ps : List (Int × Bool)} {tl : CbLed} (g : Int → Bool → Int) (hsub : ∀ p ∈ tl, p ∈ base) (hp : PairsAre tl vs ps)
    (turn : ∀ p t b I oI C oC D m₂ ys h tk (E' : Value → Shared → Prop), (p, b) ∈ ps → LCg.NsObj oC m₂ → m₂ x = some (.int p t) → m₂ x₂ = some (.bool b) → Fr h₀ L h m → News h₀ L h ((I, oI) :: (C, oC) :: (D, LCg.lst ys) :: base) → LCg.Off3 I C D base → ((@Ne Nat I C) ∧ (@Ne Nat I D) ∧ (@Ne Nat C D)) →
      wpAny (model prog w) A (eval elt (compEnvC scope cl C env)) (LCg.CompEnd h₀ L m { s with heap := h, toks := tk } I oI C oC D (LCg.lst ys) SS (fun y nw' => nw' = base ∧ ∃ t', y = .int (g p b) t')) E' { s with heap := h, toks := tk })
    (fin : ∀ ys, IntsAre ys (ps.map fun q => g q.1 q.2) → Fin ys base) : LCp.CompRestP prog w A h₀ L m env elt x x₂ scope cl s SS (fun i v => (List.toArray vs)[i]? = some v) Fin (List.toArray vs).size 0 [] base := by
  have hn : (List.toArray vs).size = ps.length := by rw [List.size_toArray]; exact hp.length
  have key : ∀ (j i : Nat) (ys : List Value), i + j = ps.length → IntsAre ys ((ps.take i).map fun q => g q.1 q.2) → LCp.CompRestP prog w A h₀ L m env elt x x₂ scope cl s SS (fun i v => (List.toArray vs)[i]? = some v) Fin j i ys base := by
    intro j
    induction j with
    | zero =>
      intro i ys hij hy
      have e : i = ps.length := by omega
      subst e
      rw [List.take_length] at hy
      exact LCp.CompRestP.zero (fin ys hy)
    | succ j ih =>
      intro i ys hij hy
      refine LCp.CompRestP.succ ?_
      intro v hv
      obtain ⟨a, p, t, b, rfl, hm, hk⟩ := hp.at i v (by simpa using hv)
      refine ⟨a, tupO p t b, .int p t, .bool b, 0, rfl, hsub _ hm, rfl, rfl, ?_⟩
      intro I oI C oC D m₂ h tk E' hC hx hx2 F N off ne
      refine wpAny_mono (turn p t b I oI C oC D m₂ ys h tk E' (List.mem_of_getElem? hk) hC hx hx2 F N off ne) (fun y s₂ hq => ?_) fun _ _ e => e
      obtain ⟨h', tk', nw, e, F', N', off', hS, hn', t', hy'⟩ := hq
      subst hn' hy'
      refine ⟨h', tk', _, e, F', N', off', hS, ?_⟩
      refine ih (i + 1) _ (by omega) ?_
      rw [List.take_add_one, hk]
      simp only [Option.toList_some, List.map_append, List.map_cons, List.map_nil]
      exact hy.append (.cons _ _ .nil)
  rw [hn]
  exact key ps.length 0 [] (by omega) (by simp only [List.take_zero, List.map_nil]; exact .nil)
theorem none_rest {vs : List Value} {ks : List Int} (hi : IntsAre vs ks)
    (turn : ∀ k t I oI C oC D m₂ h tk (E' : Value → Shared → Prop), k ∈ ks → LCg.NsObj oC m₂ → m₂ x = some (.int k t) → Fr h₀ L h m → News h₀ L h ((I, oI) :: (C, oC) :: (D, LCg.lst []) :: base) → LCg.Off3 I C D base → ((@Ne Nat I C) ∧ (@Ne Nat I D) ∧ (@Ne Nat C D)) →
      wpAny (model prog w) A (isTrue ct (compEnvC scope cl C env) (eval ct (compEnvC scope cl C env))) (fun ok s' => ok = false ∧ LCg.CompEnd h₀ L m { s with heap := h, toks := tk } I oI C oC D (LCg.lst []) SS (fun _ nw' => nw' = base) Value.none s') E' { s with heap := h, toks := tk })
    (fin : Fin [] base) : LCt.CompRestT prog w A h₀ L m env ct elt x scope cl s SS (fun i v => (List.toArray vs)[i]? = some v) Fin (List.toArray vs).size 0 [] base := by
  have hn : (List.toArray vs).size = ks.length := by rw [List.size_toArray]; exact hi.length
  have key : ∀ (j i : Nat), i + j = ks.length → LCt.CompRestT prog w A h₀ L m env ct elt x scope cl s SS (fun i v => (List.toArray vs)[i]? = some v) Fin j i [] base := by
    intro j
    induction j with
    | zero => intro i _; exact LCt.CompRestT.zero fin
    | succ j ih =>
      intro i hij
      refine LCt.CompRestT.succ ?_
      intro v I oI C oC D m₂ h tk E' hv hC hx F N off ne
      obtain ⟨k, t, rfl, hk⟩ := IntsAre.at hi i v (by simpa using hv)
      refine wpAny_mono (turn k t I oI C oC D m₂ h tk E' (List.mem_of_getElem? hk) hC hx F N off ne) (fun ok s₂ hq => ?_) fun _ _ e => e
      obtain ⟨rfl, h', tk', nw, e, F', N', off', hS, hn'⟩ := hq
      subst hn'
      rw [if_neg Bool.false_ne_true]
      exact ⟨h', tk', _, e, F', N', off', hS, ih (i + 1) (by omega)⟩
  rw [hn]
  exact key ks.length 0 (by omega)
end
section
variable {prog : Program} {w : World} {A : Around} {E : Value → Shared → Prop} {s : Shared} {h₀ : Heap} {L a b : Addr} {m : Str → Option Value} {news : List (Addr × Obj)} {vs ws : List Value} {Q : Value → Shared → Prop} {n1 n2 : Nat}
theorem g_add (F : Fr h₀ L s.heap m) (N : News h₀ L s.heap news) (ha : (a, listOf (List.toArray vs) n1) ∈ news) (hb : (b, listOf (List.toArray ws) n2) ∈ news) (hz : vs.length + ws.length ≤ 100000)
    (h : ∀ D h', Fr h₀ L h' m → News h₀ L h' ((D, listOf (List.toArray (vs ++ ws)) 0) :: news) → (∀ p ∈ news, p.1 < D) → Q (.ref D) { s with heap := h' }) : wpAny (model prog w) A (binaryOp .Add (.ref a) (.ref b)) Q E s :=
  kmk_add_lit (its := List.toArray vs) (its2 := List.toArray ws) (zs := vs ++ ws) F N ⟨_, (N _ ha).1, rfl, _, rfl⟩ ⟨_, (N _ hb).1, rfl, _, rfl⟩ rfl h (by rw [sizeLine_eq]; show vs.length + ws.length ≤ _; omega)
end
theorem news_front {h₀ h : Heap} {L : Addr} {l : List (Addr × Obj)} {x : Addr × Obj} (N : News h₀ L h l) (hm : x ∈ l) : News h₀ L h (x :: l) := fun p hp => (List.mem_cons.mp hp).elim (fun e => e ▸ N _ hm) (N p)
theorem ints_cons {vs : List Value} {ns : List Int} {k : Nat} (h : IntsAre vs ns) (hl : ns.length = k + 1) : ∃ n t vs' ns', vs = .int n t :: vs' ∧ ns = n :: ns' ∧ IntsAre vs' ns' ∧ ns'.length = k := by
  cases h with
  | nil => simp at hl
  | cons n t r => exact ⟨n, t, _, _, rfl, rfl, r, by simpa using hl⟩
theorem ints_nil {vs : List Value} {ns : List Int} (h : IntsAre vs ns) (hl : ns.length = 0) : vs = [] ∧ ns = [] := by
  cases h with
  | nil => exact ⟨rfl, rfl⟩
  | cons n t r => simp at hl
noncomputable abbrev envLaw (L fa : Addr) (cd : Value) : Env := envOfC (Str.ofString "law") (scopeAt 29) L fa cd
noncomputable abbrev AL (L fa : Addr) (cd : Value) : Around := callerA.deeper (envLaw L fa cd)
end
section
noncomputable def farsOf (here : Int) (ps : List (Int × Bool)) : List Int := ps.map fun q => farI here q.1 q.2
noncomputable def nxt (here : Int) (ps : List (Int × Bool)) : Int := if ps.contains (here + 1, false) then here + 1 else here + 2
noncomputable def goodB : Nat → Int → List (Int × Bool) → Bool
  | 0, here, ps => decide (ps.length = 1) && decide (here = 6)
  | n + 1, here, ps =>
    decide (ps.length = n + 2) && (decide (0 ≤ here) && (decide (here ≤ 6) && ((ps.all fun q => decide (0 ≤ q.1) && decide (q.1 ≤ 6)) && (((farsOf here ps).all fun f => decide (4 * (nxt here ps - here) ≤ f)) &&
      (decide (ps[(farsOf here ps).idxOf (4 * (nxt here ps - here))]? = some (nxt here ps, false)) && goodB n (nxt here ps) (ps.eraseIdx ((farsOf here ps).idxOf (4 * (nxt here ps - here)))))))))
theorem good_zero {here : Int} {ps : List (Int × Bool)} (h : goodB 0 here ps = true) : ps.length = 1 ∧ here = 6 := by
  simpa [goodB] using h
theorem good_len {n : Nat} {here : Int} {ps : List (Int × Bool)} (h : goodB n here ps = true) : ps.length = n + 1 := by
  cases n with
  | zero => exact (good_zero h).1
  | succ n =>
    simp only [goodB, Bool.and_eq_true, decide_eq_true_eq] at h
    exact h.1
theorem good_succ {n : Nat} {here : Int} {ps : List (Int × Bool)} (h : goodB (n + 1) here ps = true) : ps.length = n + 2 ∧ (0 ≤ here ∧ here ≤ 6) ∧ (∀ q ∈ ps, 0 ≤ q.1 ∧ q.1 ≤ 6) ∧
    ∃ p i, (p = here + 1 ∨ p = here + 2) ∧ (∀ f ∈ farsOf here ps, 4 * (p - here) ≤ f) ∧ (farsOf here ps).idxOf (4 * (p - here)) = i ∧ ps[i]? = some (p, false) ∧ goodB n p (ps.eraseIdx i) = true := by
  simp only [goodB, Bool.and_eq_true, decide_eq_true_eq, List.all_eq_true] at h
  obtain ⟨a, b, c, d, e, f, g⟩ := h
  refine ⟨a, ⟨b, c⟩, d, nxt here ps, _, ?_, e, rfl, f, g⟩
  unfold nxt; split
  · exact .inl rfl
  · exact .inr rfl
noncomputable def pile0 (np : List Int) (d : Int) : List (Int × Bool) := (d, true) :: (np.drop 1).map fun k => (k, false)
theorem good_all : ∀ np ∈ PL, ∀ d : Fin 7, ∀ t : Fin 5, t.val < np.length → goodB (np.length - 1) 0 ((pile0 np (d.val : Int)).drop t.val ++ (pile0 np (d.val : Int)).take t.val) = true ∧
    goodB (np.length - 1) 0 ((pile0 np (d.val : Int)).drop t.val ++ (pile0 np (d.val : Int)).take t.val).reverse = true := by decide +kernel
theorem good_start {np : List Int} {d t : Int} (h : np ∈ PL) (hd : 0 ≤ d ∧ d < 7) (ht : 0 ≤ t ∧ t < np.length) : goodB (np.length - 1) 0 ((pile0 np d).drop t.toNat ++ (pile0 np d).take t.toNat) = true ∧
    goodB (np.length - 1) 0 ((pile0 np d).drop t.toNat ++ (pile0 np d).take t.toNat).reverse = true := by
  have hl : np.length ≤ 5 := by
    simp only [PL, List.mem_cons, List.not_mem_nil, or_false] at h
    rcases h with rfl | rfl | rfl | rfl <;> simp
  have := good_all np h ⟨d.toNat, by omega⟩ ⟨t.toNat, by omega⟩ (by show t.toNat < _; omega)
  have e : ((d.toNat : Nat) : Int) = d := by omega
  simpa only [e] using this
theorem piece_map {nf : List Int} (h : Figs nf) (b : Bool) : ∀ p : Fin 7, pieceL (nf.map sig) p.val b = (pieceB p.val b).map (fch nf) := by
  obtain ⟨hl, _, _⟩ := h
  obtain ⟨x0, x1, x2, x3, x4, x5, x6, x7, x8, x9, x10, x11, rfl⟩ := list12 hl
  intro p
  have key : ∀ p : Fin 7, ((([x0, x1, x2, x3, x4, x5, x6, x7, x8, x9, x10, x11] : List Int).map sig).drop p.val).take 6 = (pieceI p.val).map (fch [x0, x1, x2, x3, x4, x5, x6, x7, x8, x9, x10, x11]) := by
    intro p
    match p with
    | ⟨0, _⟩ => rfl
    | ⟨1, _⟩ => rfl
    | ⟨2, _⟩ => rfl
    | ⟨3, _⟩ => rfl
    | ⟨4, _⟩ => rfl
    | ⟨5, _⟩ => rfl
    | ⟨6, _⟩ => rfl
  cases b with
  | false => simp only [pieceL, pieceB, Bool.false_eq_true, if_false]; exact key p
  | true => simp only [pieceL, pieceB, if_true, List.map_reverse]; rw [key p]
theorem fin7 {p : Int} (h : 0 ≤ p ∧ p ≤ 6) : ∃ a : Fin 7, p.toNat = a.val ∧ p = (a.val : Int) := ⟨⟨p.toNat, by omega⟩, rfl, by simp; omega⟩
theorem lev_far {nf : List Int} (hf : Figs nf) {h p : Int} (hh : 0 ≤ h ∧ h ≤ 6) (hp : 0 ≤ p ∧ p ≤ 6) (b : Bool) : levL substN (pieceL (nf.map sig) h.toNat false) (pieceL (nf.map sig) p.toNat b) 12 = farI h p b := by
  obtain ⟨a, a1, a2⟩ := fin7 hh
  obtain ⟨c, c1, c2⟩ := fin7 hp
  rw [a1, c1, a2, c2, piece_map hf false a, piece_map hf b c, levL_map (fun x y e => fch_inj hf x y e) (fun x y => fch_cost hf x y)]
  exact lev_all a c b
theorem lev_one {nf : List Int} (hf : Figs nf) {h p : Int} (hh : 0 ≤ h ∧ h ≤ 6) (hp : 0 ≤ p ∧ p ≤ 6) (hs : p = h + 1 ∨ p = h + 2) : levL substN (pieceL (nf.map sig) h.toNat false) (pieceL (nf.map sig) p.toNat false) 0 = 1 := by
  obtain ⟨a, a1, a2⟩ := fin7 hh
  obtain ⟨c, c1, c2⟩ := fin7 hp
  rw [a1, c1, piece_map hf false a, piece_map hf false c, levL_map (fun x y e => fch_inj hf x y e) (fun x y => fch_cost hf x y)]
  exact lev_zero a c (by omega)
theorem lev_signs {nf : List Int} (hf : Figs nf) {p : Int} (hp : p = 1 ∨ p = 2) : levL substN (pieceL (nf.map sig) 0 false ++ [33]) (pieceL (nf.map sig) p.toNat false ++ [63]) 14 = 4 * p + 2 := by
  obtain ⟨c, c1, c2⟩ := fin7 (show 0 ≤ p ∧ p ≤ 6 by omega)
  have e1 : pieceL (nf.map sig) 0 false ++ [33] = (pieceI 0 ++ [12]).map (fch nf) := by
    rw [List.map_append]; congr 1; exact piece_map hf false 0
  have e2 : pieceL (nf.map sig) p.toNat false ++ [63] = (pieceI c.val ++ [13]).map (fch nf) := by
    rw [List.map_append, c1]; congr 1; exact piece_map hf false c
  rw [e1, e2, levL_map (fun x y e => fch_inj hf x y e) (fun x y => fch_cost hf x y), c2]
  exact lev_more c (by omega)
theorem uld_pc1 {nf : List Int} (hf : Figs nf) {h p : Int} (hh : 0 ≤ h ∧ h ≤ 6) (hp : 0 ≤ p ∧ p ≤ 6) (hs : p = h + 1 ∨ p = h + 2) : uldL (pieceL (nf.map sig) h.toNat false).reverse (pieceL (nf.map sig) p.toNat false) [] =
    (((pieceL (nf.map sig) h.toNat false).take (p - h).toNat).reverse, (pieceL (nf.map sig) p.toNat false).drop (6 - (p - h).toNat)) := by
  obtain ⟨a, a1, a2⟩ := fin7 hh
  obtain ⟨c, c1, c2⟩ := fin7 hp
  rw [a1, c1, piece_map hf false a, piece_map hf false c]
  have e := uldL_map (fun x y e => fch_inj hf x y e) (pieceI a.val).reverse (pieceI c.val) []
  rw [List.map_reverse] at e
  have e0 : (p - h).toNat = c.val - a.val := by omega
  have e2 := uld_one a c (by omega)
  show uldL ((pieceI a.val).map (fch nf)).reverse ((pieceI c.val).map (fch nf)) [] = _
  rw [show ([] : List Nat) = ([] : List (Fin 14)).map (fch nf) from rfl, e, e2, e0]
  simp only [List.map_reverse, List.map_take, List.map_drop]
  rfl
theorem uld_pc2 {nf : List Int} (hf : Figs nf) {h p : Int} (hh : 0 ≤ h ∧ h ≤ 6) (hp : 0 ≤ p ∧ p ≤ 6) (hs : p = h + 1 ∨ p = h + 2) : uldL (pieceL (nf.map sig) h.toNat false ++ pieceL (nf.map sig) h.toNat false).reverse (pieceL (nf.map sig) p.toNat false) [] =
    (((pieceL (nf.map sig) h.toNat false).take (p - h).toNat).reverse ++ (pieceL (nf.map sig) h.toNat false).reverse, (pieceL (nf.map sig) p.toNat false).drop (6 - (p - h).toNat)) := by
  obtain ⟨a, a1, a2⟩ := fin7 hh
  obtain ⟨c, c1, c2⟩ := fin7 hp
  rw [a1, c1, piece_map hf false a, piece_map hf false c]
  have e := uldL_map (fun x y e => fch_inj hf x y e) (pieceI a.val ++ pieceI a.val).reverse (pieceI c.val) []
  rw [List.map_reverse, List.map_append] at e
  have e0 : (p - h).toNat = c.val - a.val := by omega
  have e2 := uld_two a c (by omega)
  show uldL ((pieceI a.val).map (fch nf) ++ (pieceI a.val).map (fch nf)).reverse ((pieceI c.val).map (fch nf)) [] = _
  rw [show ([] : List Nat) = ([] : List (Fin 14)).map (fch nf) from rfl, e, e2, e0]
  simp only [List.map_reverse, List.map_take, List.map_drop, List.map_append]
  rfl
theorem piece_len {nf : List Int} (hf : Figs nf) {p : Int} (hp : 0 ≤ p ∧ p ≤ 6) (b : Bool) : (pieceL (nf.map sig) p.toNat b).length = 6 := by
  have hl : (nf.map sig).length = 12 := by rw [List.length_map, hf.1]
  unfold pieceL
  cases b
  · rw [if_neg (by decide), List.length_take, List.length_drop, hl]; omega
  · rw [if_pos rfl, List.length_reverse, List.length_take, List.length_drop, hl]; omega
theorem text_next {l : List Nat} (hl : l.length = 12) {h p : Int} (hh : 0 ≤ h ∧ h ≤ 6) (hp : 0 ≤ p ∧ p ≤ 6) (hs : p = h + 1 ∨ p = h + 2) : l.take (h.toNat + 6) ++ (pieceL l p.toNat false).drop (6 - (p - h).toNat) = l.take (p.toNat + 6) := by
  simp only [pieceL, Bool.false_eq_true, if_false]
  rw [List.drop_take, List.drop_drop]
  have e1 : p.toNat + (6 - (p - h).toNat) = h.toNat + 6 := by omega
  have e2 : 6 - (6 - (p - h).toNat) = (p - h).toNat := by omega
  have e3 : p.toNat + 6 = (h.toNat + 6) + (p - h).toNat := by omega
  rw [e1, e2, e3]
  exact (List.take_add ..).symm
end
section
section
variable {prog : Program} {w : World} {A : Around} {E : Value → Shared → Prop} {s : Shared} {h₀ : Heap} {L a : Addr} {m : Str → Option Value} {news tl : List (Addr × Obj)} {vs vs0 : List Value} {ps : List (Int × Bool)} {ns : List Int} {Q : Value → Shared → Prop} {n : Nat} {M : Int}
theorem g_len (hp0 : PairsAre tl vs0 ps) (N : News h₀ L s.heap news) (ha : (a, listOf (List.toArray vs) n) ∈ news) (e : vs.length = vs0.length) (hz : vs0.length ≤ 100000) (h : ∀ t tk, Q (.int (vs0.length : Nat) t) { s with toks := tk }) : wpAny (model prog w) A (call (.builtin "len") [.ref a]) Q E s := by
  refine len_list (items := List.toArray vs) ⟨_, (N _ ha).1, rfl, _, rfl⟩ ?_ ?_
  · rw [List.size_toArray]; omega
  · rw [List.size_toArray, e]; exact h _ _
theorem g_min (F : Fr h₀ L s.heap m) (N : News h₀ L s.heap news) (ha : (a, listOf (List.toArray vs) n) ∈ news) (hi : IntsAre vs ns) (hh : A.handled = none) (hM : M ∈ ns) (hle : ∀ x ∈ ns, M ≤ x)
    (h : ∀ h' t tk, Fr h₀ L h' m → News h₀ L h' news → Q (.int M t) { s with heap := h', toks := tk }) : wpAny (model prog w) A (call (.builtin "min") [.ref a]) Q E s := by
  refine kso_min F N ⟨_, (N _ ha).1, rfl, _, rfl⟩ hi (List.length_pos_of_mem hM) hh ?_
  intro h' M' t tk F' N' h1 h2
  have : M' = M := Int.le_antisymm (h2 M hM) (hle M' h1)
  subst this
  exact h h' t tk F' N'
theorem g_index {k : Int} {t : Tok} {j : Nat} (N : News h₀ L s.heap news) (ha : (a, listOf (List.toArray vs) n) ∈ news) (hi : IntsAre vs ns) (hk : k ∈ ns) (hj : ns.idxOf k = j) (hz : ns.length ≤ 1000)
    (h : ∀ t tk, Q (.int (j : Nat) t) { s with toks := tk }) : wpAny (model prog w) A (call (.builtin "list.index") [.ref a, .int k t]) Q E s := by
  have hlen := hi.length
  have hlt : ns.idxOf k < ns.length := List.idxOf_lt_length_iff.mpr hk
  subst hj
  refine call_meets PySem.F.slot_list_index ⟨_, (N _ ha).1, rfl⟩ PySem.F.entry_list_index (PySem.F.args_list_index_2 _ _)
    (MeetsSeq.list_index a (List.toArray vs) n (.int k t) (isInt k) (fun y hy => eq_isInt k t hi y (by simpa using hy)) (ns.idxOf k) (by rw [List.size_toArray]; omega) (by omega) ?_ ?_) ⟨(N _ ha).1, h _ _⟩
  · show isInt k vs[ns.idxOf k] = true
    rw [isInt_at k hi _ (by omega) hlt]
    simpa using List.getElem_idxOf hlt
  · intro j hjs hlt2
    show isInt k vs[j] = false
    rw [isInt_at k hi j (by simpa using hjs) (by omega)]
    exact ne_of_lt_idxOf hlt2 _
end
theorem idx_facts {here p : Int} {ps : List (Int × Bool)} {i : Nat} (hidx : (farsOf here ps).idxOf (4 * (p - here)) = i) (hat : ps[i]? = some (p, false)) : 4 * (p - here) ∈ farsOf here ps := by
  have hlt : i < ps.length := (List.getElem?_eq_some_iff.mp hat).1
  have : (farsOf here ps).idxOf (4 * (p - here)) < (farsOf here ps).length := by rw [hidx]; unfold farsOf; rw [List.length_map]; exact hlt
  exact List.idxOf_lt_length_iff.mp this
noncomputable def whileBody (s : Stmt) : List Stmt := match s with
  | .While _ b _ _ => b
  | _ => []
noncomputable def lawW : Stmt := ((bodyAt 29)[14]?).getD (.Pass ⟨0, 0, 0, 0⟩)
theorem c_back (w : World) (mean : ExcName → Option Value) (mg mb : Str → Option Value) (news : CbLed) (nf : List Int) (t0 : Tok) (h : Figs nf) :
    Ctr 6 w mean mg mb 116 news [Value.str (S (nf.map sig)) t0] (fun t => Value.bytes (bA (rowOf nf)) t) := by
  rw [← dec_row h]
  refine c_dec w mean mg mb news (nf.map sig) t0 (by rw [List.length_map, h.1]) ?_ ?_
  · intro x hx
    obtain ⟨y, hy, rfl⟩ := List.mem_map.mp hx
    exact sig_ascii (h.2.2 y hy)
  · intro x hx
    obtain ⟨y, hy, rfl⟩ := List.mem_map.mp hx
    rw [sig_val (h.2.2 y hy)]
    exact h.2.2 y hy
theorem bA_app (a b : List Int) : bA a ++ bA b = bA (a ++ b) := by simp [bA]
theorem c_text2 (w : World) (mean : ExcName → Option Value) (mg mb : Str → Option Value) (news : CbLed) (D : Addr) (vs : List Value) (fs : List Int) (n : Nat) (hI : IntsAre vs fs) (hl : fs.length = 12) (hr : ∀ x ∈ fs, 0 ≤ x ∧ x < 64) (hm : (D, listOf (List.toArray vs) n) ∈ news) :
    Ctr 3 w mean mg mb 128 news [Value.ref D] (fun t => Value.str (S (fs.map sig)) t) := by
  dsimp only [Ctr]
  intro dp un gd cn cs a ccd cl outer A₀ base h₀ L m s Q E B F X N T hk hd hu hret
  exact c_text w mean mg mb news D vs fs n hI hl hr dp un gd cn cs a ccd cl outer A₀ base h₀ L m s Q E B F X (news_front N hm) T hk hd hu fun t h' tk' F' N' => hret t h' tk' F' fun p hp => N' p (.tail _ hp)
theorem c_row (w : World) (mean : ExcName → Option Value) (mg mb : Str → Option Value) (news : CbLed) (f0 f1 f2 f3 f4 f5 f6 f7 f8 f9 f10 f11 : Int) (t0 : Tok) (h : Figs [f0, f1, f2, f3, f4, f5, f6, f7, f8, f9, f10, f11]) :
    Ctr 6 w mean mg mb 108 news [Value.bytes (List.toArray (Array.toList (bA (octL f0 f1 f2 f3)) ++ Array.toList (bA (octL f4 f5 f6 f7)) ++ Array.toList (bA (octL f8 f9 f10 f11)))) t0] (fun t => Value.bytes (bA (([f0, f1, f2, f3, f4, f5, f6, f7, f8, f9, f10, f11].map sig).map fun (c : Nat) => (c : Int))) t) := by
  have e : List.toArray (Array.toList (bA (octL f0 f1 f2 f3)) ++ Array.toList (bA (octL f4 f5 f6 f7)) ++ Array.toList (bA (octL f8 f9 f10 f11))) = bA (rowOf [f0, f1, f2, f3, f4, f5, f6, f7, f8, f9, f10, f11]) := by
    simp [rowOf, bA]
  rw [e, ← enc_row h]
  exact c_enc w mean mg mb news (rowOf [f0, f1, f2, f3, f4, f5, f6, f7, f8, f9, f10, f11]) t0 (by simp [rowOf, octL]) (row_in h)
theorem call_decode2 {prog : Program} {w : World} {A : Around} {E : Value → Shared → Prop} {s : Shared} {l : List Nat} {t u : Tok} {Q : Value → Shared → Prop} (h : ∀ c ∈ l, c < 128) (hn : 1 ≤ l.length) (hx : l.length ≤ 1000)
    (hQ : ∀ t' k, Q (.str (S l) t') { s with toks := k }) : wpAny (model prog w) A (call (.builtin "bytes.decode") [.bytes (bA (l.map fun (c : Nat) => (c : Int))) t, .str (Str.ofString "ascii") u]) Q E s := by
  refine call_decode (ns := l.map fun (c : Nat) => (c : Int)) ?_ (by simpa using hn) (by simpa using hx) ?_
  · intro c hc
    obtain ⟨y, hy, rfl⟩ := List.mem_map.mp hc
    have := h y hy
    omega
  · have e : (l.map fun (c : Nat) => (c : Int)).map Int.toNat = l := by
      rw [List.map_map]; conv => rhs; rw [← List.map_id l]
      exact List.map_congr_left fun x _ => by simp
    rw [e]; exact hQ
theorem sorted_eq {n m : List Int} (p : n.Perm m) (o : n.Pairwise (fun a b => a ≤ b)) (k : List Int) (hk : k.Perm m) (ok : k.Pairwise (fun a b => a ≤ b)) : n = k :=
  List.Perm.eq_of_pairwise (fun _ _ _ _ h1 h2 => Int.le_antisymm h1 h2) o ok (p.trans hk.symm)
theorem in_PL {n m : List Int} (p : n.Perm m) (o : n.Pairwise (fun a b => a ≤ b)) (h : m = [0, 2, 4, 6] ∨ m = [0, 2, 4, 6, 1] ∨ m = [0, 2, 4, 6, 3] ∨ m = [0, 2, 4, 6, 5]) : n ∈ PL := by
  rcases h with rfl | rfl | rfl | rfl
  · rw [sorted_eq p o [0, 2, 4, 6] (by decide) (by decide)]; decide
  · rw [sorted_eq p o [0, 1, 2, 4, 6] (by decide) (by decide)]; decide
  · rw [sorted_eq p o [0, 2, 3, 4, 6] (by decide) (by decide)]; decide
  · rw [sorted_eq p o [0, 2, 4, 5, 6] (by decide) (by decide)]; decide
structure SW where
  n : Nat
  here : Int
  th : Tok
  vs : List Value
  ps : List (Int × Bool)
  ck : Nat
  oH : Obj
  oP : Obj
  vP : Option Value
  tt : Tok
noncomputable def PW (tl : CbLed) (c : SW) : Prop := goodB c.n c.here c.ps = true ∧ PairsAre tl c.vs c.ps ∧ c.oH.data = .cell (some (.int c.here c.th)) ∧ c.oP.data = .cell c.vP ∧ c.n ≤ 4
end
section
theorem strs_get : ∀ {vs : List Value} {ss : List Str}, vs.length = ss.length → (∀ (j : Nat) (v : Value), vs[j]? = some v → ∃ x u, ss[j]? = some x ∧ v = .str x u) → StrsAre vs ss
  | [], [], _, _ => .nil
  | [], _ :: _, h, _ => by simp at h
  | _ :: _, [], h, _ => by simp at h
  | v :: vs, x :: ss, h, hv => by
    obtain ⟨y, u, e, rfl⟩ := hv 0 v rfl
    have e' : x = y := by simpa using e
    subst e'
    exact .cons x u (strs_get (by simpa using h) fun j v hj => by
      obtain ⟨y, u, e, hv⟩ := hv (j + 1) v (by simpa using hj)
      exact ⟨y, u, by simpa using e, hv⟩)
theorem strs_rev : ∀ {vs : List Value} {ss : List Str}, StrsAre vs ss → StrsAre vs.reverse ss.reverse
  | _, _, .nil => .nil
  | _, _, .cons x t h => by
    rw [List.reverse_cons, List.reverse_cons]
    exact (strs_rev h).append' (.cons x t .nil)
theorem strs_revM {vs : List Value} {l : List Nat} (h : StrsAre vs (l.map sg)) : StrsAre vs.reverse (l.reverse.map sg) := by
  rw [List.map_reverse]; exact strs_rev h
theorem strs_appM {vs ws : List Value} {l r : List Nat} (h : StrsAre vs (l.map sg)) (h2 : StrsAre ws (r.map sg)) : StrsAre (vs ++ ws) ((l ++ r).map sg) := by
  rw [List.map_append]; exact h.append' h2
section
variable {prog : Program} {w : World} {A : Around} {E : Value → Shared → Prop} {s : Shared} {h₀ : Heap} {L : Addr} {m : Str → Option Value} {news : List (Addr × Obj)} {Q : Value → Shared → Prop}
theorem g_list {l : List Nat} {t : Tok} (hh : A.handled = none) (F : Fr h₀ L s.heap m) (N : News h₀ L s.heap news) (hl : l.length ≤ 1000)
    (h : ∀ D vs n h' tk, Fr h₀ L h' m → News h₀ L h' ((D, listOf (List.toArray vs) n) :: news) → (∀ p ∈ news, p.1 < D) → StrsAre vs (l.map sg) → Q (.ref D) { s with heap := h', toks := tk }) :
    wpAny (model prog w) A (call (.type "list") [.str (S l) t]) Q E s := by
  have hz : (S l).cps.size = l.length := S_length l
  refine call_list_str hh (S l) t (hn := by rw [hz, sizeLine_eq]; omega) fun h' tk acc c hk hD hI => ?_
  have hD' : h'.get? s.heap.objs.size = some (listOf (List.toArray acc.toList) c) := by rw [Array.toArray_toList]; exact hD
  refine h _ acc.toList c h' tk (F.keeps hk) (news_pushed F N hk hD' rfl) (fun p hp => Heap.lt_size (N p hp).1) (strs_get (by rw [Array.length_toList, hI.1, hz, List.length_map]) fun j v hj => ?_)
  obtain ⟨c, u, hc, rfl⟩ := hI.2 j v (by rw [← hj, Array.getElem?_toList])
  have hc' : l[j]? = some c := by simpa [S] using hc
  exact ⟨sg c, u, by rw [List.getElem?_map, hc']; rfl, rfl⟩
theorem ones_sum : ∀ l : List Nat, (((l.map sg).map fun x => x.length).sum : Nat) = l.length
  | [] => rfl
  | x :: r => by
    rw [List.map_cons, List.map_cons, List.sum_cons, ones_sum r, List.length_cons]
    show (sg x).length + r.length = r.length + 1
    rw [show (sg x).length = 1 from rfl]; omega
theorem g_join {l : List Nat} {D : Addr} {vs : List Value} {n : Nat} {t : Tok} (N : News h₀ L s.heap news) (hm : (D, listOf (List.toArray vs) n) ∈ news) (hs : StrsAre vs (l.map sg)) (hl : l.length ≤ 1000)
    (h : ∀ t' k, Q (.str (S l) t') { s with toks := k }) : wpAny (model prog w) A (call (.builtin "str.join") [.str (Str.ofString "") t, .ref D]) Q E s := by
  refine join_listW (items := List.toArray vs) (ys := l.map sg) ⟨_, (N _ hm).1, rfl, _, rfl⟩ hs (by decide) (by rw [ones_sum, List.length_map]; omega) fun t' k => ?_
  have e : Txt.join (Str.ofString "") (l.map sg) = S l := by
    have := join_S (fun c : Nat => c) l
    rw [List.map_id'] at this
    exact this
  rw [e]; exact h t' k
theorem reads_sg {h : Heap} {D : Addr} {vs : List Value} {n : Nat} {l : List Nat} (hm : h.get? D = some (listOf (List.toArray vs) n)) (hs : StrsAre vs (l.map sg)) : Reads h (.ref D) (.list ((l.map sg).map .str)) [D] :=
  .list hm rfl rfl (hs.reads h)
theorem ok_sg : ∀ {l : List Nat}, (∀ c ∈ l, c < 128) → PyData.canLayAll0 ((l.map sg).map .str) = true
  | [], _ => rfl
  | x :: r, h => by
    rw [List.map_cons, List.map_cons]
    simp only [PyData.canLayAll0, PyData.canLay0]
    rw [ok_sg fun c hc => h c (.tail _ hc), Bool.and_true]
    have := h x (.head _)
    show (S [x]).cps.all (· < 0x110000) = true
    simp [S]; omega
theorem dep_sg : ∀ l : List Nat, PyData.depthAll ((l.map sg).map .str) = 0
  | [] => rfl
  | x :: r => by
    rw [List.map_cons, List.map_cons]
    show max 0 (PyData.depthAll ((r.map sg).map .str)) = 0
    rw [dep_sg r]; rfl
noncomputable abbrev tup2 (a b : Addr) : Obj := { cls := Value.type "tuple", data := Data.seq #[Value.ref a, Value.ref b] }
theorem g_ne {T1 M1 D1 T2 M2 D2 : Addr} {v1 w1 v2 w2 : List Value} {n1 k1 n2 k2 : Nat} {xs ys : List Nat} (N : News h₀ L s.heap news) (hT1 : (T1, tup2 M1 D1) ∈ news) (hM1 : (M1, listOf (List.toArray v1) n1) ∈ news) (hD1 : (D1, listOf (List.toArray w1) k1) ∈ news)
    (hT2 : (T2, tup2 M2 D2) ∈ news) (hM2 : (M2, listOf (List.toArray v2) n2) ∈ news) (hD2 : (D2, listOf (List.toArray w2) k2) ∈ news) (s1 : StrsAre v1 (xs.map sg)) (s2 : StrsAre w1 (ys.map sg)) (s3 : StrsAre v2 (xs.map sg)) (s4 : StrsAre w2 (ys.map sg))
    (hx : ∀ c ∈ xs, c < 128) (hy : ∀ c ∈ ys, c < 128) (hu : A.units + 64 < cLine) (h : Q (.bool false) s) : wpAny (model prog w) A (compareOp .NotEq (.ref T1) (.ref T2)) Q E s := by
  have r1 : Reads s.heap (.ref T1) (.tuple [.list ((xs.map sg).map .str), .list ((ys.map sg).map .str)]) _ := .tuple (N _ hT1).1 rfl rfl (.cons (reads_sg (N _ hM1).1 s1) (.cons (reads_sg (N _ hD1).1 s2) .nil))
  have r2 : Reads s.heap (.ref T2) (.tuple [.list ((xs.map sg).map .str), .list ((ys.map sg).map .str)]) _ := .tuple (N _ hT2).1 rfl rfl (.cons (reads_sg (N _ hM2).1 s3) (.cons (reads_sg (N _ hD2).1 s4) .nil))
  have hc : PyData.canLay0 (.tuple [.list ((xs.map sg).map .str), .list ((ys.map sg).map .str)]) = true := by
    show (PyData.canLayAll0 ((xs.map sg).map .str) && (PyData.canLayAll0 ((ys.map sg).map .str) && true)) = true
    rw [ok_sg hx, ok_sg hy]; rfl
  have hd : PyData.depth (.tuple [.list ((xs.map sg).map .str), .list ((ys.map sg).map .str)]) ≤ 64 := by
    show max (PyData.depthAll ((xs.map sg).map .str) + 1) (max (PyData.depthAll ((ys.map sg).map .str) + 1) 0) + 1 ≤ 64
    rw [dep_sg, dep_sg]; decide
  have hsh : SeqAt.shaped (.tuple [.list ((xs.map sg).map .str), .list ((ys.map sg).map .str)]) = true := by
    unfold SeqAt.shaped; rw [hc, decide_eq_true hd]; rfl
  refine SeqAt.compareNe_shaped r1 r2 hsh hsh hu ?_
  rw [show PyData.eqv (.tuple [.list ((xs.map sg).map .str), .list ((ys.map sg).map .str)]) (.tuple [.list ((xs.map sg).map .str), .list ((ys.map sg).map .str)]) = true from by first | exact SeqAt.eqv_refl _ hc | exact eqv_refl _ hc | exact P3.eqv_refl _ hc]
  exact h
end
theorem chars_pc {nf : List Int} (hf : Figs nf) {p : Nat} {b : Bool} : ∀ c ∈ pieceL (nf.map sig) p b, c < 128 := by
  have key : ∀ c ∈ nf.map sig, c < 128 := by
    intro c hc
    obtain ⟨y, hy, rfl⟩ := List.mem_map.mp hc
    exact sig_ascii (hf.2.2 y hy)
  intro c hc
  unfold pieceL at hc
  cases b
  · rw [if_neg (by decide)] at hc
    exact key c (List.mem_of_mem_drop (List.mem_of_mem_take hc))
  · rw [if_pos rfl, List.mem_reverse] at hc
    exact key c (List.mem_of_mem_drop (List.mem_of_mem_take hc))
theorem g_list2 {prog : Program} {w : World} {A : Around} {E : Value → Shared → Prop} {s : Shared} {h₀ : Heap} {L : Addr} {m : Str → Option Value} {news : List (Addr × Obj)} {Q : Value → Shared → Prop} {l : List Nat} {x : Str} {t : Tok} (e : x = S l) (hh : A.handled = none) (F : Fr h₀ L s.heap m) (N : News h₀ L s.heap news) (hl : l.length ≤ 1000)
    (h : ∀ D vs n h' tk, Fr h₀ L h' m → News h₀ L h' ((D, listOf (List.toArray vs) n) :: news) → (∀ p ∈ news, p.1 < D) → StrsAre vs (l.map sg) → Q (.ref D) { s with heap := h', toks := tk }) :
    wpAny (model prog w) A (call (.type "list") [.str x t]) Q E s := by
  subst e; exact g_list hh F N hl h
theorem bang (l : List Nat) : S l ++ Str.ofString "!" = S (l ++ [33]) := by
  have : Str.ofString "!" = S [33] := by decide +kernel
  rw [this, S_append]
theorem quest (l : List Nat) : S l ++ Str.ofString "?" = S (l ++ [63]) := by
  have : Str.ofString "?" = S [63] := by decide +kernel
  rw [this, S_append]
theorem tl_seq {h₀ h : Heap} {L a c : Addr} {news : CbLed} {o1 o2 : Obj} {its : Array Value} {n : Nat} {v : Option Value} (N : News h₀ L h news) (h1 : (a, o1) ∈ news) (h2 : (c, o2) ∈ news) (hs : o1.data = .seq its n) (hc : o2.data = .cell v) : @Ne Nat a c := by
  intro e
  have e' : a = c := e
  have g1 := (N _ h1).1
  have g2 := (N _ h2).1
  rw [e'] at g1
  rw [g1] at g2
  have g3 : o1 = o2 := Option.some.inj g2
  rw [← g3, hs] at hc
  cases hc
theorem g_revS {prog : Program} {w : World} {A : Around} {E : Value → Shared → Prop} {s : Shared} {h₀ : Heap} {L a : Addr} {m : Str → Option Value} {news : List (Addr × Obj)} {value slice : PySem.Expr} {vs : List Value} {l : List Nat} {vk : Value} {ops : List Value} {n : Nat} {Q : Value → Shared → Prop}
    (F : Fr h₀ L s.heap m) (N : News h₀ L s.heap news) (hm : (a, listOf (List.toArray vs) n) ∈ news) (hS : StrsAre vs (l.map sg)) (hl : l.length ≤ 1000) (pk : IsPart vk (some (-1)))
    (h : ∀ D h', Fr h₀ L h' m → News h₀ L h' ((D, listOf (List.toArray vs.reverse) 0) :: news) → (∀ p ∈ news, p.1 < D) → StrsAre vs.reverse (l.reverse.map sg) → Q (.ref D) { s with heap := h' })
    (hs : subscripted slice false (.ref a) (.ref s.heap.objs.size) = operate ops (getItem (.ref a) (.ref s.heap.objs.size))) (ht : ∀ r, letTemporaryGo value (.ref a) r = pure ()) :
    wpAny (model prog w) A (subscriptTail value slice (.ref a) (.ref s.heap.objs.size)) Q E { s with heap := s.heap.push { cls := .type "slice", data := .fields #[.none, .none, vk] } } := by
  refine krv_lit (its := List.toArray vs) (zs := vs.reverse) F N ⟨_, (N _ hm).1, rfl, _, rfl⟩ pk rfl (fun D h' F' N' l1 => h D h' F' N' l1 (strs_revM hS)) hs ht ?_
  have := hS.length
  rw [List.length_map] at this
  rw [List.size_toArray, sizeLine_eq]; omega
theorem g_addS {prog : Program} {w : World} {A : Around} {E : Value → Shared → Prop} {s : Shared} {h₀ : Heap} {L a b : Addr} {m : Str → Option Value} {news : List (Addr × Obj)} {vs ws : List Value} {l r : List Nat} {n1 n2 : Nat} {Q : Value → Shared → Prop}
    (F : Fr h₀ L s.heap m) (N : News h₀ L s.heap news) (ha : (a, listOf (List.toArray vs) n1) ∈ news) (hb : (b, listOf (List.toArray ws) n2) ∈ news) (s1 : StrsAre vs (l.map sg)) (s2 : StrsAre ws (r.map sg)) (hz : l.length + r.length ≤ 1000)
    (h : ∀ D h', Fr h₀ L h' m → News h₀ L h' ((D, listOf (List.toArray (vs ++ ws)) 0) :: news) → (∀ p ∈ news, p.1 < D) → StrsAre (vs ++ ws) ((l ++ r).map sg) → Q (.ref D) { s with heap := h' }) : wpAny (model prog w) A (binaryOp .Add (.ref a) (.ref b)) Q E s := by
  have e1 := s1.length
  have e2 := s2.length
  rw [List.length_map] at e1 e2
  exact g_add F N ha hb (by omega) fun D h' F' N' l1 => h D h' F' N' l1 (strs_appM s1 s2)
end
section






theorem turn13 (w : World) (mean : ExcName → Option Value) (mg mb : Str → Option Value) (fa L : Addr) (cd : Value) (h₀ : Heap) (s : Shared) (Q : Flow → Shared → Prop) (E : Value → Shared → Prop) (u : Str → Option Value)
    (B : Below callerA h₀ [] h₀) (X : (hd.heap_39 w.params).In h₀) (T : Top hd.view_39 loo mean mg mb h₀) (hE : PassesOwn (model PG w) (AL L fa cd) (envLaw L fa cd) E)
    (oW oH oP : Obj) (tW th tt tr tP : Tok) (nf : List Int) (hfg : Figs nf) (hW : oW.data = .cell (some (.str (S (nf.map sig)) tW))) (here p : Int) (hH : oH.data = .cell (some (.int here th))) (hP : oP.data = .cell (some (.str (S (pieceL (nf.map sig) here.toNat false)) tP)))
    (D : Addr) (tl : CbLed) (vs : List Value) (ck : Nat) (hat : AllTup tl) (hD : @LT.lt Nat _ (L + 1 + 1 + 1 + 1 + 1) D) (hh : 0 ≤ here ∧ here ≤ 6) (hp6 : 0 ≤ p ∧ p ≤ 6) (hs : p = here + 1 ∨ p = here + 2) (t1 t2 t3 : Tok)
    (Tt M Da : Addr) (va : List Value) (ca : Nat) (sa : StrsAre va ((List.drop (6 - (p - here).toNat) (pieceL (nf.map sig) p.toNat false)).map sg))
    (hnext : ∀ (h' : Heap) (tk' : Nat) (m' : Str → Option Value) (oH' oP' : Obj) (th' tt' : Tok) (vP' : Option Value), oH'.data = .cell (some (.int p th')) → oP'.data = .cell vP' → Fr h₀ L h' m' →
      (∀ q ∈ [(Str.ofString "pile", Value.ref D), (Str.ofString "text", Value.str (S ((nf.map sig).take (p.toNat + 6))) tt'), (Str.ofString "row", Value.bytes (bA (rowOf nf)) tr)], m' q.1 = some q.2) →
      News h₀ L h' ((D, listOf (List.toArray vs) ck) :: (L + 1 + 1 + 1, oW) :: (L + 1 + 1 + 1 + 1, oH') :: (L + 1 + 1 + 1 + 1 + 1, oP') :: tl) → Q .next { s with heap := h', toks := tk' })
    (F : Fr h₀ L s.heap (kstB u [(Str.ofString "pile", .ref D), (Str.ofString "text", .str (S ((nf.map sig).take (here.toNat + 6))) tt), (Str.ofString "row", .bytes (bA (rowOf nf)) tr), (Str.ofString "step", .int (p - here) t1), (Str.ofString "nearest", .str (S (pieceL (nf.map sig) p.toNat false)) t2), (Str.ofString "place", .int p t3), (Str.ofString "told", .ref Tt)]))
    (N : News h₀ L s.heap ((Tt, tup2 M Da) :: (Da, listOf (List.toArray va) ca) :: (D, listOf (List.toArray vs) ck) :: (L + 1 + 1 + 1, oW) :: (L + 1 + 1 + 1 + 1, oH) :: (L + 1 + 1 + 1 + 1 + 1, oP) :: tl)) :
    wpAny (model PG w) (AL L fa cd) (execs ((whileBody lawW).drop 13) (envLaw L fa cd)) Q E s := by
  with_unfolding_all show wpAny _ _ (execs (_ :: _) _) _ _ _
  dsimp only [kstB] at F
  have hll : (nf.map sig).length = 12 := by rw [List.length_map, hfg.1]
  have hsl : (S (nf.map sig)).length = 12 := by rw [S_length, hll]
  have hq1 := piece_len hfg hh false
  have hq2 := piece_len hfg hp6 false
  have hq3 : (S (pieceL (nf.map sig) here.toNat false)).length = 6 := by rw [S_length, hq1]
  have hq4 : (S (pieceL (nf.map sig) p.toNat false)).length = 6 := by rw [S_length, hq2]
  have hk0 : (6 - (p - here)).toNat = 6 - (p - here).toNat := by omega
  have hcx : ∀ c ∈ (List.take (p - here).toNat (pieceL (nf.map sig) here.toNat false)).reverse, c < 128 := fun c hc => chars_pc hfg c (List.mem_of_mem_take (List.mem_reverse.mp hc))
  have hcy : ∀ c ∈ List.drop (6 - (p - here).toNat) (pieceL (nf.map sig) p.toNat false), c < 128 := fun c hc => chars_pc hfg c (List.mem_of_mem_drop hc)
  have htx := text_next hll hh hp6 hs
  have hT4 : ∀ q ∈ tl, q.1 ≠ L + 1 + 1 + 1 + 1 := tl_cell N (fun q hq => .tail _ (.tail _ (.tail _ (.tail _ (.tail _ (.tail _ hq)))))) hat (by k_mem) hH
  have hn1 : @Ne Nat Tt (L + 1 + 1 + 1 + 1) := tl_seq N (by k_mem : (Tt, tup2 M Da) ∈ _) (by k_mem : (L + 1 + 1 + 1 + 1, oH) ∈ _) rfl hH
  have hn2 : @Ne Nat Da (L + 1 + 1 + 1 + 1) := tl_seq N (by k_mem : (Da, listOf (List.toArray va) ca) ∈ _) (by k_mem : (L + 1 + 1 + 1 + 1, oH) ∈ _) rfl hH
  have hq5 : (S (pieceL (nf.map sig) here.toNat false) ++ Str.ofString "!").length = 7 := by rw [bang, S_length, List.length_append, hq1]; rfl
  have hq6 : (S (pieceL (nf.map sig) p.toNat false) ++ Str.ofString "?").length = 7 := by rw [quest, S_length, List.length_append, hq2]; rfl
  have hla : (S ((nf.map sig).take (here.toNat + 6))).length = here.toNat + 6 := by rw [S_length, List.length_take, hll]; omega
  have hlb : (S (List.drop (6 - (p - here).toNat) (pieceL (nf.map sig) p.toNat false))).length = (p - here).toNat := by rw [S_length, List.length_drop, hq2]; omega
  by_cases hz : here = 0
  · have hls : levL substN (pieceL (nf.map sig) here.toNat false ++ [33]) (pieceL (nf.map sig) p.toNat false ++ [63]) 14 = 4 * (p - here) + 2 := by
      subst hz
      have := lev_signs hfg (p := p) (by omega)
      rw [show (0 : Int).toNat = 0 from rfl, this]; omega
    repeat' (first | (((with_reducible show wpAny _ _ (binaryOp _ (Value.ref _) (Value.ref _)) _ _ _); k_here; (with_reducible show wpAny _ _ (binaryOp _ (Value.ref _) (Value.ref _)) _ _ _); k_dflt (refine' g_addS ?F ?N ?a ?b ?s1 ?s2 ?z ?_; (case F => k_asm); (case N => k_asm); (case a => k_mem); (case b => k_mem); (case s1 => assumption); (case s2 => assumption); (case z => (simp only [List.length_reverse, List.length_take]; omega))); intro _ _ _ _ l1 _; (try k_lt l1); revert l1; intro _; (try k_sweep))) | (((with_reducible show wpAny _ _ (subscriptTail _ (PySem.Expr.Slice none none (some _) _) (Value.ref _) (Value.ref _)) _ _ _); k_here; (with_reducible show wpAny _ _ (subscriptTail _ (PySem.Expr.Slice none none (some _) _) (Value.ref _) (Value.ref _)) _ _ _); k_dflt (refine' g_revS ?F ?N ?l ?S ?n ?k ?_ ?s ?t; (case F => k_asm); (case N => k_asm); (case l => k_mem); (case S => assumption); (case n => omega); (case k => exact IsPart.int _ _); (case s => with_unfolding_all rfl); (case t => kmk_pure)); intro _ _ _ _ l1 _; (try k_lt l1); revert l1; intro _; (try k_sweep))) | (((with_reducible show wpAny _ _ (call (Value.ref 35) [Value.str (S _ ++ _) _, Value.str (S _ ++ _) _, Value.int _ _]) _ _ _); k_here; (with_reducible show wpAny _ _ (call (Value.ref 35) [Value.str (S _ ++ _) _, Value.str (S _ ++ _) _, Value.int _ _]) _ _ _); (simp only [bang, quest]); k_dflt ((refine' c_lev _ _ _ _ _ _ _ _ _ _ _ (by first | omega | (simp only [List.length_append, List.length_cons, List.length_nil]; omega)) (by first | omega | (simp only [List.length_append, List.length_cons, List.length_nil]; omega)) (by omega) _ _ _ _ _ _ _ _ _ _ _ _ _ _ _ _ _ (by k_asm) (by k_asm) (by k_asm) (by with_reducible assumption) (by k_asm) (by first | exact rfl | assumption) (by ktr_room) (by ktr_units) ?_)); intro _ _ _ _ _; (try dsimp only); (try k_sweep))) | (((with_reducible show wpAny _ _ (call (Value.builtin "str.join") [Value.str _ _, Value.ref _]) _ _ _); k_here; (with_reducible show wpAny _ _ (call (Value.builtin "str.join") [Value.str _ _, Value.ref _]) _ _ _); k_dflt (refine' g_join ?N ?m ?s ?n ?_; (case N => k_asm); (case m => k_mem); (case s => assumption); (case n => (rw [List.length_drop]; omega))); intro _ _)) | (((with_reducible show wpAny _ _ (compareOp CmpOp.NotEq (Value.ref _) (Value.ref _)) _ _ _); k_here; (with_reducible show wpAny _ _ (compareOp CmpOp.NotEq (Value.ref _) (Value.ref _)) _ _ _); k_dflt (refine' g_ne ?N ?a1 ?a2 ?a3 ?a4 ?a5 ?a6 ?s1 ?s2 ?s3 ?s4 ?x ?y ?u ?_; (case N => k_asm); (case a1 => k_mem); (case a2 => k_mem); (case a3 => k_mem); (case a4 => k_mem); (case a5 => k_mem); (case a6 => k_mem); (case s1 => assumption); (case s2 => assumption); (case s3 => first | assumption | exact strs_revM (by assumption)); (case s4 => assumption); (case x => assumption); (case y => assumption); (case u => ktr_units)))) | (((with_reducible show wpAny _ _ (call (Value.type "list") [Value.str (S _ ++ S _) _]) _ _ _); k_here; (with_reducible show wpAny _ _ (call (Value.type "list") [Value.str (S _ ++ S _) _]) _ _ _); k_dflt (refine' g_list2 (S_append _ _) rfl (by k_asm) (by k_asm) (by (try simp only [List.length_take, List.length_drop, List.length_append]); omega) ?_); intro _ _ _ _ _ _ _ l1 _; (try k_lt l1); revert l1; intro _; (try k_sweep))) | (((with_reducible show wpAny _ _ (call (Value.type "list") [Value.str (Txt.slice (S _) (some _) none) _]) _ _ _); k_here; (with_reducible show wpAny _ _ (call (Value.type "list") [Value.str (Txt.slice (S _) (some _) none) _]) _ _ _); k_dflt (refine' g_list2 (sl_from (by omega) (by omega)) rfl (by k_asm) (by k_asm) (by (try simp only [List.length_take, List.length_drop, List.length_append]); omega) ?_); intro _ _ _ _ _ _ _ l1 _; (try k_lt l1); revert l1; intro _; (try k_sweep))) | (((with_reducible show wpAny _ _ (call (Value.type "list") [Value.str (Txt.slice (S _) none (some _)) _]) _ _ _); k_here; (with_reducible show wpAny _ _ (call (Value.type "list") [Value.str (Txt.slice (S _) none (some _)) _]) _ _ _); k_dflt (refine' g_list2 (sl_to (by omega) (by omega)) rfl (by k_asm) (by k_asm) (by (try simp only [List.length_take, List.length_drop, List.length_append]); omega) ?_); intro _ _ _ _ _ _ _ l1 _; (try k_lt l1); revert l1; intro _; (try k_sweep))) | (((with_reducible show wpAny _ _ (call (Value.type "list") [Value.str (S _) _]) _ _ _); k_here; (with_reducible show wpAny _ _ (call (Value.type "list") [Value.str (S _) _]) _ _ _); k_dflt (refine' g_list2 rfl rfl (by k_asm) (by k_asm) (by (try simp only [List.length_take, List.length_drop, List.length_append]); omega) ?_); intro _ _ _ _ _ _ _ l1 _; (try k_lt l1); revert l1; intro _; (try k_sweep))) | (((with_reducible show wpAny _ _ (call (Value.ref 35) [Value.str (S _) _, Value.str (S _) _, Value.int _ _]) _ _ _); k_here; (with_reducible show wpAny _ _ (call (Value.ref 35) [Value.str (S _) _, Value.str (S _) _, Value.int _ _]) _ _ _); k_dflt ((refine' c_lev _ _ _ _ _ _ _ _ _ _ _ (by first | omega | (simp only [List.length_append, List.length_cons, List.length_nil]; omega)) (by first | omega | (simp only [List.length_append, List.length_cons, List.length_nil]; omega)) (by omega) _ _ _ _ _ _ _ _ _ _ _ _ _ _ _ _ _ (by k_asm) (by k_asm) (by k_asm) (by with_reducible assumption) (by k_asm) (by first | exact rfl | assumption) (by ktr_room) (by ktr_units) ?_)); intro _ _ _ _ _; (try dsimp only); (try k_sweep))) | ((k_openite; (with_reducible show (if (_ != _) = true then _ else _)); first | refine ite_pos (by (simp only [bne_iff_ne, ne_eq]; omega)) ?_ | refine ite_neg (by (simp only [bne_iff_ne, ne_eq]; omega)) ?_)) | walk_at "1 step")
    all_goals first
      | (exfalso; omega)
      | (rename Fr _ _ _ _ => lF
         rename News _ _ _ _ => lN
         rw [S_append, htx] at lF
         refine hnext _ _ _ _ _ _ _ _ (by assumption) hP lF (by kst_all) ?_
         ((repeat (refine List.forall_mem_cons.mpr ⟨lN _ (by k_mem), ?_⟩)); exact fun q hq => lN q (by (repeat (refine List.Mem.tail _ ?_)); exact hq)))
  · repeat' (first | (((with_reducible show wpAny _ _ (binaryOp _ (Value.ref _) (Value.ref _)) _ _ _); k_here; (with_reducible show wpAny _ _ (binaryOp _ (Value.ref _) (Value.ref _)) _ _ _); k_dflt (refine' g_addS ?F ?N ?a ?b ?s1 ?s2 ?z ?_; (case F => k_asm); (case N => k_asm); (case a => k_mem); (case b => k_mem); (case s1 => assumption); (case s2 => assumption); (case z => (simp only [List.length_reverse, List.length_take]; omega))); intro _ _ _ _ l1 _; (try k_lt l1); revert l1; intro _; (try k_sweep))) | (((with_reducible show wpAny _ _ (subscriptTail _ (PySem.Expr.Slice none none (some _) _) (Value.ref _) (Value.ref _)) _ _ _); k_here; (with_reducible show wpAny _ _ (subscriptTail _ (PySem.Expr.Slice none none (some _) _) (Value.ref _) (Value.ref _)) _ _ _); k_dflt (refine' g_revS ?F ?N ?l ?S ?n ?k ?_ ?s ?t; (case F => k_asm); (case N => k_asm); (case l => k_mem); (case S => assumption); (case n => omega); (case k => exact IsPart.int _ _); (case s => with_unfolding_all rfl); (case t => kmk_pure)); intro _ _ _ _ l1 _; (try k_lt l1); revert l1; intro _; (try k_sweep))) | (((with_reducible show wpAny _ _ (call (Value.ref 35) [Value.str (S _ ++ _) _, Value.str (S _ ++ _) _, Value.int _ _]) _ _ _); k_here; (with_reducible show wpAny _ _ (call (Value.ref 35) [Value.str (S _ ++ _) _, Value.str (S _ ++ _) _, Value.int _ _]) _ _ _); (simp only [bang, quest]); k_dflt ((refine' c_lev _ _ _ _ _ _ _ _ _ _ _ (by first | omega | (simp only [List.length_append, List.length_cons, List.length_nil]; omega)) (by first | omega | (simp only [List.length_append, List.length_cons, List.length_nil]; omega)) (by omega) _ _ _ _ _ _ _ _ _ _ _ _ _ _ _ _ _ (by k_asm) (by k_asm) (by k_asm) (by with_reducible assumption) (by k_asm) (by first | exact rfl | assumption) (by ktr_room) (by ktr_units) ?_)); intro _ _ _ _ _; (try dsimp only); (try k_sweep))) | (((with_reducible show wpAny _ _ (call (Value.builtin "str.join") [Value.str _ _, Value.ref _]) _ _ _); k_here; (with_reducible show wpAny _ _ (call (Value.builtin "str.join") [Value.str _ _, Value.ref _]) _ _ _); k_dflt (refine' g_join ?N ?m ?s ?n ?_; (case N => k_asm); (case m => k_mem); (case s => assumption); (case n => (rw [List.length_drop]; omega))); intro _ _)) | (((with_reducible show wpAny _ _ (compareOp CmpOp.NotEq (Value.ref _) (Value.ref _)) _ _ _); k_here; (with_reducible show wpAny _ _ (compareOp CmpOp.NotEq (Value.ref _) (Value.ref _)) _ _ _); k_dflt (refine' g_ne ?N ?a1 ?a2 ?a3 ?a4 ?a5 ?a6 ?s1 ?s2 ?s3 ?s4 ?x ?y ?u ?_; (case N => k_asm); (case a1 => k_mem); (case a2 => k_mem); (case a3 => k_mem); (case a4 => k_mem); (case a5 => k_mem); (case a6 => k_mem); (case s1 => assumption); (case s2 => assumption); (case s3 => first | assumption | exact strs_revM (by assumption)); (case s4 => assumption); (case x => assumption); (case y => assumption); (case u => ktr_units)))) | (((with_reducible show wpAny _ _ (call (Value.type "list") [Value.str (S _ ++ S _) _]) _ _ _); k_here; (with_reducible show wpAny _ _ (call (Value.type "list") [Value.str (S _ ++ S _) _]) _ _ _); k_dflt (refine' g_list2 (S_append _ _) rfl (by k_asm) (by k_asm) (by (try simp only [List.length_take, List.length_drop, List.length_append]); omega) ?_); intro _ _ _ _ _ _ _ l1 _; (try k_lt l1); revert l1; intro _; (try k_sweep))) | (((with_reducible show wpAny _ _ (call (Value.type "list") [Value.str (Txt.slice (S _) (some _) none) _]) _ _ _); k_here; (with_reducible show wpAny _ _ (call (Value.type "list") [Value.str (Txt.slice (S _) (some _) none) _]) _ _ _); k_dflt (refine' g_list2 (sl_from (by omega) (by omega)) rfl (by k_asm) (by k_asm) (by (try simp only [List.length_take, List.length_drop, List.length_append]); omega) ?_); intro _ _ _ _ _ _ _ l1 _; (try k_lt l1); revert l1; intro _; (try k_sweep))) | (((with_reducible show wpAny _ _ (call (Value.type "list") [Value.str (Txt.slice (S _) none (some _)) _]) _ _ _); k_here; (with_reducible show wpAny _ _ (call (Value.type "list") [Value.str (Txt.slice (S _) none (some _)) _]) _ _ _); k_dflt (refine' g_list2 (sl_to (by omega) (by omega)) rfl (by k_asm) (by k_asm) (by (try simp only [List.length_take, List.length_drop, List.length_append]); omega) ?_); intro _ _ _ _ _ _ _ l1 _; (try k_lt l1); revert l1; intro _; (try k_sweep))) | (((with_reducible show wpAny _ _ (call (Value.type "list") [Value.str (S _) _]) _ _ _); k_here; (with_reducible show wpAny _ _ (call (Value.type "list") [Value.str (S _) _]) _ _ _); k_dflt (refine' g_list2 rfl rfl (by k_asm) (by k_asm) (by (try simp only [List.length_take, List.length_drop, List.length_append]); omega) ?_); intro _ _ _ _ _ _ _ l1 _; (try k_lt l1); revert l1; intro _; (try k_sweep))) | (((with_reducible show wpAny _ _ (call (Value.ref 35) [Value.str (S _) _, Value.str (S _) _, Value.int _ _]) _ _ _); k_here; (with_reducible show wpAny _ _ (call (Value.ref 35) [Value.str (S _) _, Value.str (S _) _, Value.int _ _]) _ _ _); k_dflt ((refine' c_lev _ _ _ _ _ _ _ _ _ _ _ (by first | omega | (simp only [List.length_append, List.length_cons, List.length_nil]; omega)) (by first | omega | (simp only [List.length_append, List.length_cons, List.length_nil]; omega)) (by omega) _ _ _ _ _ _ _ _ _ _ _ _ _ _ _ _ _ (by k_asm) (by k_asm) (by k_asm) (by with_reducible assumption) (by k_asm) (by first | exact rfl | assumption) (by ktr_room) (by ktr_units) ?_)); intro _ _ _ _ _; (try dsimp only); (try k_sweep))) | ((k_openite; (with_reducible show (if (_ != _) = true then _ else _)); first | refine ite_pos (by (simp only [bne_iff_ne, ne_eq]; omega)) ?_ | refine ite_neg (by (simp only [bne_iff_ne, ne_eq]; omega)) ?_)) | walk_at "1 step")
    all_goals first
      | (exfalso; omega)
      | (rename Fr _ _ _ _ => lF
         rename News _ _ _ _ => lN
         rw [S_append, htx] at lF
         refine hnext _ _ _ _ _ _ _ _ (by assumption) hP lF (by kst_all) ?_
         ((repeat (refine List.forall_mem_cons.mpr ⟨lN _ (by k_mem), ?_⟩)); exact fun q hq => lN q (by (repeat (refine List.Mem.tail _ ?_)); exact hq)))




theorem turn12 (w : World) (mean : ExcName → Option Value) (mg mb : Str → Option Value) (fa L : Addr) (cd : Value) (h₀ : Heap) (s : Shared) (Q : Flow → Shared → Prop) (E : Value → Shared → Prop) (u : Str → Option Value)
    (B : Below callerA h₀ [] h₀) (X : (hd.heap_39 w.params).In h₀) (T : Top hd.view_39 loo mean mg mb h₀) (hE : PassesOwn (model PG w) (AL L fa cd) (envLaw L fa cd) E)
    (oW oH oP : Obj) (tW th tt tr tP : Tok) (nf : List Int) (hfg : Figs nf) (hW : oW.data = .cell (some (.str (S (nf.map sig)) tW))) (here p : Int) (hH : oH.data = .cell (some (.int here th))) (hP : oP.data = .cell (some (.str (S (pieceL (nf.map sig) here.toNat false)) tP)))
    (D : Addr) (tl : CbLed) (vs : List Value) (ck : Nat) (hat : AllTup tl) (hD : @LT.lt Nat _ (L + 1 + 1 + 1 + 1 + 1) D) (hh : 0 ≤ here ∧ here ≤ 6) (hp6 : 0 ≤ p ∧ p ≤ 6) (hs : p = here + 1 ∨ p = here + 2) (t1 t2 t3 : Tok)
    (Tt M Da : Addr) (va : List Value) (ca : Nat) (sa : StrsAre va ((List.drop (6 - (p - here).toNat) (pieceL (nf.map sig) p.toNat false)).map sg))
    (hnext : ∀ (h' : Heap) (tk' : Nat) (m' : Str → Option Value) (oH' oP' : Obj) (th' tt' : Tok) (vP' : Option Value), oH'.data = .cell (some (.int p th')) → oP'.data = .cell vP' → Fr h₀ L h' m' →
      (∀ q ∈ [(Str.ofString "pile", Value.ref D), (Str.ofString "text", Value.str (S ((nf.map sig).take (p.toNat + 6))) tt'), (Str.ofString "row", Value.bytes (bA (rowOf nf)) tr)], m' q.1 = some q.2) →
      News h₀ L h' ((D, listOf (List.toArray vs) ck) :: (L + 1 + 1 + 1, oW) :: (L + 1 + 1 + 1 + 1, oH') :: (L + 1 + 1 + 1 + 1 + 1, oP') :: tl) → Q .next { s with heap := h', toks := tk' })
    (F : Fr h₀ L s.heap (kstB u [(Str.ofString "pile", .ref D), (Str.ofString "text", .str (S ((nf.map sig).take (here.toNat + 6))) tt), (Str.ofString "row", .bytes (bA (rowOf nf)) tr), (Str.ofString "step", .int (p - here) t1), (Str.ofString "nearest", .str (S (pieceL (nf.map sig) p.toNat false)) t2), (Str.ofString "place", .int p t3), (Str.ofString "told", .ref Tt)]))
    (N : News h₀ L s.heap ((Tt, tup2 M Da) :: (Da, listOf (List.toArray va) ca) :: (D, listOf (List.toArray vs) ck) :: (L + 1 + 1 + 1, oW) :: (L + 1 + 1 + 1 + 1, oH) :: (L + 1 + 1 + 1 + 1 + 1, oP) :: tl)) :
    wpAny (model PG w) (AL L fa cd) (execs ((whileBody lawW).drop 12) (envLaw L fa cd)) Q E s := by
  with_unfolding_all show wpAny _ _ (execs (_ :: _) _) _ _ _
  dsimp only [kstB] at F
  have hll : (nf.map sig).length = 12 := by rw [List.length_map, hfg.1]
  have hsl : (S (nf.map sig)).length = 12 := by rw [S_length, hll]
  have hq1 := piece_len hfg hh false
  have hq2 := piece_len hfg hp6 false
  have hq3 : (S (pieceL (nf.map sig) here.toNat false)).length = 6 := by rw [S_length, hq1]
  have hq4 : (S (pieceL (nf.map sig) p.toNat false)).length = 6 := by rw [S_length, hq2]
  have hk0 : (6 - (p - here)).toNat = 6 - (p - here).toNat := by omega
  have hcx : ∀ c ∈ (List.take (p - here).toNat (pieceL (nf.map sig) here.toNat false)).reverse, c < 128 := fun c hc => chars_pc hfg c (List.mem_of_mem_take (List.mem_reverse.mp hc))
  have hcy : ∀ c ∈ List.drop (6 - (p - here).toNat) (pieceL (nf.map sig) p.toNat false), c < 128 := fun c hc => chars_pc hfg c (List.mem_of_mem_drop hc)
  have hl1 := lev_one hfg hh hp6 hs
  repeat' ((fail_if_success (with_reducible show wpAny _ _ (PySem.execs [_, _, _] _) _ _ _)); (first | (((with_reducible show wpAny _ _ (binaryOp _ (Value.ref _) (Value.ref _)) _ _ _); k_here; (with_reducible show wpAny _ _ (binaryOp _ (Value.ref _) (Value.ref _)) _ _ _); k_dflt (refine' g_addS ?F ?N ?a ?b ?s1 ?s2 ?z ?_; (case F => k_asm); (case N => k_asm); (case a => k_mem); (case b => k_mem); (case s1 => assumption); (case s2 => assumption); (case z => (simp only [List.length_reverse, List.length_take]; omega))); intro _ _ _ _ l1 _; (try k_lt l1); revert l1; intro _; (try k_sweep))) | (((with_reducible show wpAny _ _ (subscriptTail _ (PySem.Expr.Slice none none (some _) _) (Value.ref _) (Value.ref _)) _ _ _); k_here; (with_reducible show wpAny _ _ (subscriptTail _ (PySem.Expr.Slice none none (some _) _) (Value.ref _) (Value.ref _)) _ _ _); k_dflt (refine' g_revS ?F ?N ?l ?S ?n ?k ?_ ?s ?t; (case F => k_asm); (case N => k_asm); (case l => k_mem); (case S => assumption); (case n => omega); (case k => exact IsPart.int _ _); (case s => with_unfolding_all rfl); (case t => kmk_pure)); intro _ _ _ _ l1 _; (try k_lt l1); revert l1; intro _; (try k_sweep))) | (((with_reducible show wpAny _ _ (call (Value.ref 35) [Value.str (S _ ++ _) _, Value.str (S _ ++ _) _, Value.int _ _]) _ _ _); k_here; (with_reducible show wpAny _ _ (call (Value.ref 35) [Value.str (S _ ++ _) _, Value.str (S _ ++ _) _, Value.int _ _]) _ _ _); (simp only [bang, quest]); k_dflt ((refine' c_lev _ _ _ _ _ _ _ _ _ _ _ (by first | omega | (simp only [List.length_append, List.length_cons, List.length_nil]; omega)) (by first | omega | (simp only [List.length_append, List.length_cons, List.length_nil]; omega)) (by omega) _ _ _ _ _ _ _ _ _ _ _ _ _ _ _ _ _ (by k_asm) (by k_asm) (by k_asm) (by with_reducible assumption) (by k_asm) (by first | exact rfl | assumption) (by ktr_room) (by ktr_units) ?_)); intro _ _ _ _ _; (try dsimp only); (try k_sweep))) | (((with_reducible show wpAny _ _ (call (Value.builtin "str.join") [Value.str _ _, Value.ref _]) _ _ _); k_here; (with_reducible show wpAny _ _ (call (Value.builtin "str.join") [Value.str _ _, Value.ref _]) _ _ _); k_dflt (refine' g_join ?N ?m ?s ?n ?_; (case N => k_asm); (case m => k_mem); (case s => assumption); (case n => (rw [List.length_drop]; omega))); intro _ _)) | (((with_reducible show wpAny _ _ (compareOp CmpOp.NotEq (Value.ref _) (Value.ref _)) _ _ _); k_here; (with_reducible show wpAny _ _ (compareOp CmpOp.NotEq (Value.ref _) (Value.ref _)) _ _ _); k_dflt (refine' g_ne ?N ?a1 ?a2 ?a3 ?a4 ?a5 ?a6 ?s1 ?s2 ?s3 ?s4 ?x ?y ?u ?_; (case N => k_asm); (case a1 => k_mem); (case a2 => k_mem); (case a3 => k_mem); (case a4 => k_mem); (case a5 => k_mem); (case a6 => k_mem); (case s1 => assumption); (case s2 => assumption); (case s3 => first | assumption | exact strs_revM (by assumption)); (case s4 => assumption); (case x => assumption); (case y => assumption); (case u => ktr_units)))) | (((with_reducible show wpAny _ _ (call (Value.type "list") [Value.str (S _ ++ S _) _]) _ _ _); k_here; (with_reducible show wpAny _ _ (call (Value.type "list") [Value.str (S _ ++ S _) _]) _ _ _); k_dflt (refine' g_list2 (S_append _ _) rfl (by k_asm) (by k_asm) (by (try simp only [List.length_take, List.length_drop, List.length_append]); omega) ?_); intro _ _ _ _ _ _ _ l1 _; (try k_lt l1); revert l1; intro _; (try k_sweep))) | (((with_reducible show wpAny _ _ (call (Value.type "list") [Value.str (Txt.slice (S _) (some _) none) _]) _ _ _); k_here; (with_reducible show wpAny _ _ (call (Value.type "list") [Value.str (Txt.slice (S _) (some _) none) _]) _ _ _); k_dflt (refine' g_list2 (sl_from (by omega) (by omega)) rfl (by k_asm) (by k_asm) (by (try simp only [List.length_take, List.length_drop, List.length_append]); omega) ?_); intro _ _ _ _ _ _ _ l1 _; (try k_lt l1); revert l1; intro _; (try k_sweep))) | (((with_reducible show wpAny _ _ (call (Value.type "list") [Value.str (Txt.slice (S _) none (some _)) _]) _ _ _); k_here; (with_reducible show wpAny _ _ (call (Value.type "list") [Value.str (Txt.slice (S _) none (some _)) _]) _ _ _); k_dflt (refine' g_list2 (sl_to (by omega) (by omega)) rfl (by k_asm) (by k_asm) (by (try simp only [List.length_take, List.length_drop, List.length_append]); omega) ?_); intro _ _ _ _ _ _ _ l1 _; (try k_lt l1); revert l1; intro _; (try k_sweep))) | (((with_reducible show wpAny _ _ (call (Value.type "list") [Value.str (S _) _]) _ _ _); k_here; (with_reducible show wpAny _ _ (call (Value.type "list") [Value.str (S _) _]) _ _ _); k_dflt (refine' g_list2 rfl rfl (by k_asm) (by k_asm) (by (try simp only [List.length_take, List.length_drop, List.length_append]); omega) ?_); intro _ _ _ _ _ _ _ l1 _; (try k_lt l1); revert l1; intro _; (try k_sweep))) | (((with_reducible show wpAny _ _ (call (Value.ref 35) [Value.str (S _) _, Value.str (S _) _, Value.int _ _]) _ _ _); k_here; (with_reducible show wpAny _ _ (call (Value.ref 35) [Value.str (S _) _, Value.str (S _) _, Value.int _ _]) _ _ _); k_dflt ((refine' c_lev _ _ _ _ _ _ _ _ _ _ _ (by first | omega | (simp only [List.length_append, List.length_cons, List.length_nil]; omega)) (by first | omega | (simp only [List.length_append, List.length_cons, List.length_nil]; omega)) (by omega) _ _ _ _ _ _ _ _ _ _ _ _ _ _ _ _ _ (by k_asm) (by k_asm) (by k_asm) (by with_reducible assumption) (by k_asm) (by first | exact rfl | assumption) (by ktr_room) (by ktr_units) ?_)); intro _ _ _ _ _; (try dsimp only); (try k_sweep))) | ((k_openite; (with_reducible show (if (_ != _) = true then _ else _)); first | refine ite_pos (by (simp only [bne_iff_ne, ne_eq]; omega)) ?_ | refine ite_neg (by (simp only [bne_iff_ne, ne_eq]; omega)) ?_)) | walk_at "1 step"))
  rename Fr _ _ _ _ => lF
  rename News _ _ _ _ => lN
  with_unfolding_all refine' turn13 w mean mg mb fa L cd h₀ _ Q E _ B X T hE oW oH oP tW th tt tr tP nf hfg hW here p hH hP D tl vs ck hat hD hh hp6 hs t1 t2 t3 Tt M Da va ca sa ?hn (fr_kst lF ?hk) ?hm
  case hk => kst_all
  case hm => ((repeat (refine List.forall_mem_cons.mpr ⟨lN _ (by k_mem), ?_⟩)); exact fun q hq => lN q (by (repeat (refine List.Mem.tail _ ?_)); exact hq))
  case hn => exact fun h9 tk9 m9 oH9 oP9 th9 tt9 vP9 a b c d e => hnext h9 tk9 m9 oH9 oP9 th9 tt9 vP9 a b c d e






theorem turn11 (w : World) (mean : ExcName → Option Value) (mg mb : Str → Option Value) (fa L : Addr) (cd : Value) (h₀ : Heap) (s : Shared) (Q : Flow → Shared → Prop) (E : Value → Shared → Prop) (u : Str → Option Value)
    (B : Below callerA h₀ [] h₀) (X : (hd.heap_39 w.params).In h₀) (T : Top hd.view_39 loo mean mg mb h₀) (hE : PassesOwn (model PG w) (AL L fa cd) (envLaw L fa cd) E)
    (oW oH oP : Obj) (tW th tt tr tP : Tok) (nf : List Int) (hfg : Figs nf) (hW : oW.data = .cell (some (.str (S (nf.map sig)) tW))) (here p : Int) (hH : oH.data = .cell (some (.int here th))) (hP : oP.data = .cell (some (.str (S (pieceL (nf.map sig) here.toNat false)) tP)))
    (D : Addr) (tl : CbLed) (vs : List Value) (ck : Nat) (hat : AllTup tl) (hD : @LT.lt Nat _ (L + 1 + 1 + 1 + 1 + 1) D) (hh : 0 ≤ here ∧ here ≤ 6) (hp6 : 0 ≤ p ∧ p ≤ 6) (hs : p = here + 1 ∨ p = here + 2) (t1 t2 t3 : Tok)
    (Tt M Da Ka Kb : Addr) (va va2 vb2 : List Value) (ca na nb : Nat) (sa : StrsAre va ((List.drop (6 - (p - here).toNat) (pieceL (nf.map sig) p.toNat false)).map sg)) (sa2 : StrsAre va2 ((List.take (p - here).toNat (pieceL (nf.map sig) here.toNat false)).reverse.map sg)) (sb2 : StrsAre vb2 ((List.drop (6 - (p - here).toNat) (pieceL (nf.map sig) p.toNat false)).map sg))
    (hnext : ∀ (h' : Heap) (tk' : Nat) (m' : Str → Option Value) (oH' oP' : Obj) (th' tt' : Tok) (vP' : Option Value), oH'.data = .cell (some (.int p th')) → oP'.data = .cell vP' → Fr h₀ L h' m' →
      (∀ q ∈ [(Str.ofString "pile", Value.ref D), (Str.ofString "text", Value.str (S ((nf.map sig).take (p.toNat + 6))) tt'), (Str.ofString "row", Value.bytes (bA (rowOf nf)) tr)], m' q.1 = some q.2) →
      News h₀ L h' ((D, listOf (List.toArray vs) ck) :: (L + 1 + 1 + 1, oW) :: (L + 1 + 1 + 1 + 1, oH') :: (L + 1 + 1 + 1 + 1 + 1, oP') :: tl) → Q .next { s with heap := h', toks := tk' })
    (F : Fr h₀ L s.heap (kstB u [(Str.ofString "pile", .ref D), (Str.ofString "text", .str (S ((nf.map sig).take (here.toNat + 6))) tt), (Str.ofString "row", .bytes (bA (rowOf nf)) tr), (Str.ofString "step", .int (p - here) t1), (Str.ofString "nearest", .str (S (pieceL (nf.map sig) p.toNat false)) t2), (Str.ofString "place", .int p t3), (Str.ofString "told", .ref Tt), (Str.ofString "lacks", .ref Ka), (Str.ofString "comes", .ref Kb)]))
    (N : News h₀ L s.heap ((Ka, listOf (List.toArray va2) na) :: (Kb, listOf (List.toArray vb2) nb) :: (Tt, tup2 M Da) :: (Da, listOf (List.toArray va) ca) :: (D, listOf (List.toArray vs) ck) :: (L + 1 + 1 + 1, oW) :: (L + 1 + 1 + 1 + 1, oH) :: (L + 1 + 1 + 1 + 1 + 1, oP) :: tl)) :
    wpAny (model PG w) (AL L fa cd) (execs ((whileBody lawW).drop 11) (envLaw L fa cd)) Q E s := by
  with_unfolding_all show wpAny _ _ (execs (_ :: _) _) _ _ _
  dsimp only [kstB] at F
  have hll : (nf.map sig).length = 12 := by rw [List.length_map, hfg.1]
  have hsl : (S (nf.map sig)).length = 12 := by rw [S_length, hll]
  have hq1 := piece_len hfg hh false
  have hq2 := piece_len hfg hp6 false
  have hq3 : (S (pieceL (nf.map sig) here.toNat false)).length = 6 := by rw [S_length, hq1]
  have hq4 : (S (pieceL (nf.map sig) p.toNat false)).length = 6 := by rw [S_length, hq2]
  have hk0 : (6 - (p - here)).toNat = 6 - (p - here).toNat := by omega
  have hcx : ∀ c ∈ (List.take (p - here).toNat (pieceL (nf.map sig) here.toNat false)).reverse, c < 128 := fun c hc => chars_pc hfg c (List.mem_of_mem_take (List.mem_reverse.mp hc))
  have hcy : ∀ c ∈ List.drop (6 - (p - here).toNat) (pieceL (nf.map sig) p.toNat false), c < 128 := fun c hc => chars_pc hfg c (List.mem_of_mem_drop hc)
  have hcx2 : ∀ c ∈ (List.take (p - here).toNat (pieceL (nf.map sig) here.toNat false)).reverse ++ (pieceL (nf.map sig) here.toNat false).reverse, c < 128 := fun c hc => (List.mem_append.mp hc).elim (hcx c) fun hc => chars_pc hfg c (List.mem_reverse.mp hc)
  repeat' ((fail_if_success (with_reducible show wpAny _ _ (call (Value.ref 123) _) _ _ _)); (first | (((with_reducible show wpAny _ _ (binaryOp _ (Value.ref _) (Value.ref _)) _ _ _); k_here; (with_reducible show wpAny _ _ (binaryOp _ (Value.ref _) (Value.ref _)) _ _ _); k_dflt (refine' g_addS ?F ?N ?a ?b ?s1 ?s2 ?z ?_; (case F => k_asm); (case N => k_asm); (case a => k_mem); (case b => k_mem); (case s1 => assumption); (case s2 => assumption); (case z => (simp only [List.length_reverse, List.length_take]; omega))); intro _ _ _ _ l1 _; (try k_lt l1); revert l1; intro _; (try k_sweep))) | (((with_reducible show wpAny _ _ (subscriptTail _ (PySem.Expr.Slice none none (some _) _) (Value.ref _) (Value.ref _)) _ _ _); k_here; (with_reducible show wpAny _ _ (subscriptTail _ (PySem.Expr.Slice none none (some _) _) (Value.ref _) (Value.ref _)) _ _ _); k_dflt (refine' g_revS ?F ?N ?l ?S ?n ?k ?_ ?s ?t; (case F => k_asm); (case N => k_asm); (case l => k_mem); (case S => assumption); (case n => omega); (case k => exact IsPart.int _ _); (case s => with_unfolding_all rfl); (case t => kmk_pure)); intro _ _ _ _ l1 _; (try k_lt l1); revert l1; intro _; (try k_sweep))) | (((with_reducible show wpAny _ _ (call (Value.ref 35) [Value.str (S _ ++ _) _, Value.str (S _ ++ _) _, Value.int _ _]) _ _ _); k_here; (with_reducible show wpAny _ _ (call (Value.ref 35) [Value.str (S _ ++ _) _, Value.str (S _ ++ _) _, Value.int _ _]) _ _ _); (simp only [bang, quest]); k_dflt ((refine' c_lev _ _ _ _ _ _ _ _ _ _ _ (by first | omega | (simp only [List.length_append, List.length_cons, List.length_nil]; omega)) (by first | omega | (simp only [List.length_append, List.length_cons, List.length_nil]; omega)) (by omega) _ _ _ _ _ _ _ _ _ _ _ _ _ _ _ _ _ (by k_asm) (by k_asm) (by k_asm) (by with_reducible assumption) (by k_asm) (by first | exact rfl | assumption) (by ktr_room) (by ktr_units) ?_)); intro _ _ _ _ _; (try dsimp only); (try k_sweep))) | (((with_reducible show wpAny _ _ (call (Value.builtin "str.join") [Value.str _ _, Value.ref _]) _ _ _); k_here; (with_reducible show wpAny _ _ (call (Value.builtin "str.join") [Value.str _ _, Value.ref _]) _ _ _); k_dflt (refine' g_join ?N ?m ?s ?n ?_; (case N => k_asm); (case m => k_mem); (case s => assumption); (case n => (rw [List.length_drop]; omega))); intro _ _)) | (((with_reducible show wpAny _ _ (compareOp CmpOp.NotEq (Value.ref _) (Value.ref _)) _ _ _); k_here; (with_reducible show wpAny _ _ (compareOp CmpOp.NotEq (Value.ref _) (Value.ref _)) _ _ _); k_dflt (refine' g_ne ?N ?a1 ?a2 ?a3 ?a4 ?a5 ?a6 ?s1 ?s2 ?s3 ?s4 ?x ?y ?u ?_; (case N => k_asm); (case a1 => k_mem); (case a2 => k_mem); (case a3 => k_mem); (case a4 => k_mem); (case a5 => k_mem); (case a6 => k_mem); (case s1 => assumption); (case s2 => assumption); (case s3 => first | assumption | exact strs_revM (by assumption)); (case s4 => assumption); (case x => assumption); (case y => assumption); (case u => ktr_units)))) | (((with_reducible show wpAny _ _ (call (Value.type "list") [Value.str (S _ ++ S _) _]) _ _ _); k_here; (with_reducible show wpAny _ _ (call (Value.type "list") [Value.str (S _ ++ S _) _]) _ _ _); k_dflt (refine' g_list2 (S_append _ _) rfl (by k_asm) (by k_asm) (by (try simp only [List.length_take, List.length_drop, List.length_append]); omega) ?_); intro _ _ _ _ _ _ _ l1 _; (try k_lt l1); revert l1; intro _; (try k_sweep))) | (((with_reducible show wpAny _ _ (call (Value.type "list") [Value.str (Txt.slice (S _) (some _) none) _]) _ _ _); k_here; (with_reducible show wpAny _ _ (call (Value.type "list") [Value.str (Txt.slice (S _) (some _) none) _]) _ _ _); k_dflt (refine' g_list2 (sl_from (by omega) (by omega)) rfl (by k_asm) (by k_asm) (by (try simp only [List.length_take, List.length_drop, List.length_append]); omega) ?_); intro _ _ _ _ _ _ _ l1 _; (try k_lt l1); revert l1; intro _; (try k_sweep))) | (((with_reducible show wpAny _ _ (call (Value.type "list") [Value.str (Txt.slice (S _) none (some _)) _]) _ _ _); k_here; (with_reducible show wpAny _ _ (call (Value.type "list") [Value.str (Txt.slice (S _) none (some _)) _]) _ _ _); k_dflt (refine' g_list2 (sl_to (by omega) (by omega)) rfl (by k_asm) (by k_asm) (by (try simp only [List.length_take, List.length_drop, List.length_append]); omega) ?_); intro _ _ _ _ _ _ _ l1 _; (try k_lt l1); revert l1; intro _; (try k_sweep))) | (((with_reducible show wpAny _ _ (call (Value.type "list") [Value.str (S _) _]) _ _ _); k_here; (with_reducible show wpAny _ _ (call (Value.type "list") [Value.str (S _) _]) _ _ _); k_dflt (refine' g_list2 rfl rfl (by k_asm) (by k_asm) (by (try simp only [List.length_take, List.length_drop, List.length_append]); omega) ?_); intro _ _ _ _ _ _ _ l1 _; (try k_lt l1); revert l1; intro _; (try k_sweep))) | (((with_reducible show wpAny _ _ (call (Value.ref 35) [Value.str (S _) _, Value.str (S _) _, Value.int _ _]) _ _ _); k_here; (with_reducible show wpAny _ _ (call (Value.ref 35) [Value.str (S _) _, Value.str (S _) _, Value.int _ _]) _ _ _); k_dflt ((refine' c_lev _ _ _ _ _ _ _ _ _ _ _ (by first | omega | (simp only [List.length_append, List.length_cons, List.length_nil]; omega)) (by first | omega | (simp only [List.length_append, List.length_cons, List.length_nil]; omega)) (by omega) _ _ _ _ _ _ _ _ _ _ _ _ _ _ _ _ _ (by k_asm) (by k_asm) (by k_asm) (by with_reducible assumption) (by k_asm) (by first | exact rfl | assumption) (by ktr_room) (by ktr_units) ?_)); intro _ _ _ _ _; (try dsimp only); (try k_sweep))) | ((k_openite; (with_reducible show (if (_ != _) = true then _ else _)); first | refine ite_pos (by (simp only [bne_iff_ne, ne_eq]; omega)) ?_ | refine ite_neg (by (simp only [bne_iff_ne, ne_eq]; omega)) ?_)) | walk_at "1 step"))
  rename_i De ve ne _ _ hSe hle Db vb nbb _ _ lF lN hSb hlb
  refine c_uld w mean mg mb ((Ka, listOf (List.toArray va2) na) :: (Kb, listOf (List.toArray vb2) nb) :: (Tt, tup2 M Da) :: (Da, listOf (List.toArray va) ca) :: (D, listOf (List.toArray vs) ck) :: (L + 1 + 1 + 1, oW) :: (L + 1 + 1 + 1 + 1, oH) :: (L + 1 + 1 + 1 + 1 + 1, oP) :: tl) ((pieceL (nf.map sig) here.toNat false) ++ (pieceL (nf.map sig) here.toNat false)) (pieceL (nf.map sig) p.toNat false) De Db ve vb ne nbb (Nat.ne_of_lt hlb.1) (fun q hq => Nat.ne_of_lt (kst_ltOf (show AllLt De ((Ka, listOf (List.toArray va2) na) :: (Kb, listOf (List.toArray vb2) nb) :: (Tt, tup2 M Da) :: (Da, listOf (List.toArray va) ca) :: (D, listOf (List.toArray vs) ck) :: (L + 1 + 1 + 1, oW) :: (L + 1 + 1 + 1 + 1, oH) :: (L + 1 + 1 + 1 + 1 + 1, oP) :: tl) from hle) q hq)) (fun q hq => Nat.ne_of_lt (kst_ltOf (show AllLt Db ((Ka, listOf (List.toArray va2) na) :: (Kb, listOf (List.toArray vb2) nb) :: (Tt, tup2 M Da) :: (Da, listOf (List.toArray va) ca) :: (D, listOf (List.toArray vs) ck) :: (L + 1 + 1 + 1, oW) :: (L + 1 + 1 + 1 + 1, oH) :: (L + 1 + 1 + 1 + 1 + 1, oP) :: tl) from hlb.2) q hq)) hSe hSb (by rw [List.length_append]; omega) (by omega) _ _ _ _ _ _ _ _ h₀ L _ _ _ _ lF X ?_ T rfl (by ktr_room) (by ktr_units) ?_
  · ((repeat (refine List.forall_mem_cons.mpr ⟨lN _ (by k_mem), ?_⟩)); exact fun q hq => lN q (by (repeat (refine List.Mem.tail _ ?_)); exact hq))
  intro T9 M9 vm9 va9 cm9 ca9 ce9 h9 tk9 s1 s2 l1 l2 l3 l4 F9 N9
  rw [uld_pc2 hfg hh hp6 hs] at s1 s2
  clear lF lN
  (try k_fold)
  repeat' ((fail_if_success (with_reducible show wpAny _ _ (PySem.execs [_, _, _, _] _) _ _ _)); (first | (((with_reducible show wpAny _ _ (binaryOp _ (Value.ref _) (Value.ref _)) _ _ _); k_here; (with_reducible show wpAny _ _ (binaryOp _ (Value.ref _) (Value.ref _)) _ _ _); k_dflt (refine' g_addS ?F ?N ?a ?b ?s1 ?s2 ?z ?_; (case F => k_asm); (case N => k_asm); (case a => k_mem); (case b => k_mem); (case s1 => assumption); (case s2 => assumption); (case z => (simp only [List.length_reverse, List.length_take]; omega))); intro _ _ _ _ l1 _; (try k_lt l1); revert l1; intro _; (try k_sweep))) | (((with_reducible show wpAny _ _ (subscriptTail _ (PySem.Expr.Slice none none (some _) _) (Value.ref _) (Value.ref _)) _ _ _); k_here; (with_reducible show wpAny _ _ (subscriptTail _ (PySem.Expr.Slice none none (some _) _) (Value.ref _) (Value.ref _)) _ _ _); k_dflt (refine' g_revS ?F ?N ?l ?S ?n ?k ?_ ?s ?t; (case F => k_asm); (case N => k_asm); (case l => k_mem); (case S => assumption); (case n => omega); (case k => exact IsPart.int _ _); (case s => with_unfolding_all rfl); (case t => kmk_pure)); intro _ _ _ _ l1 _; (try k_lt l1); revert l1; intro _; (try k_sweep))) | (((with_reducible show wpAny _ _ (call (Value.ref 35) [Value.str (S _ ++ _) _, Value.str (S _ ++ _) _, Value.int _ _]) _ _ _); k_here; (with_reducible show wpAny _ _ (call (Value.ref 35) [Value.str (S _ ++ _) _, Value.str (S _ ++ _) _, Value.int _ _]) _ _ _); (simp only [bang, quest]); k_dflt ((refine' c_lev _ _ _ _ _ _ _ _ _ _ _ (by first | omega | (simp only [List.length_append, List.length_cons, List.length_nil]; omega)) (by first | omega | (simp only [List.length_append, List.length_cons, List.length_nil]; omega)) (by omega) _ _ _ _ _ _ _ _ _ _ _ _ _ _ _ _ _ (by k_asm) (by k_asm) (by k_asm) (by with_reducible assumption) (by k_asm) (by first | exact rfl | assumption) (by ktr_room) (by ktr_units) ?_)); intro _ _ _ _ _; (try dsimp only); (try k_sweep))) | (((with_reducible show wpAny _ _ (call (Value.builtin "str.join") [Value.str _ _, Value.ref _]) _ _ _); k_here; (with_reducible show wpAny _ _ (call (Value.builtin "str.join") [Value.str _ _, Value.ref _]) _ _ _); k_dflt (refine' g_join ?N ?m ?s ?n ?_; (case N => k_asm); (case m => k_mem); (case s => assumption); (case n => (rw [List.length_drop]; omega))); intro _ _)) | (((with_reducible show wpAny _ _ (compareOp CmpOp.NotEq (Value.ref _) (Value.ref _)) _ _ _); k_here; (with_reducible show wpAny _ _ (compareOp CmpOp.NotEq (Value.ref _) (Value.ref _)) _ _ _); k_dflt (refine' g_ne ?N ?a1 ?a2 ?a3 ?a4 ?a5 ?a6 ?s1 ?s2 ?s3 ?s4 ?x ?y ?u ?_; (case N => k_asm); (case a1 => k_mem); (case a2 => k_mem); (case a3 => k_mem); (case a4 => k_mem); (case a5 => k_mem); (case a6 => k_mem); (case s1 => assumption); (case s2 => assumption); (case s3 => first | assumption | exact strs_revM (by assumption)); (case s4 => assumption); (case x => assumption); (case y => assumption); (case u => ktr_units)))) | (((with_reducible show wpAny _ _ (call (Value.type "list") [Value.str (S _ ++ S _) _]) _ _ _); k_here; (with_reducible show wpAny _ _ (call (Value.type "list") [Value.str (S _ ++ S _) _]) _ _ _); k_dflt (refine' g_list2 (S_append _ _) rfl (by k_asm) (by k_asm) (by (try simp only [List.length_take, List.length_drop, List.length_append]); omega) ?_); intro _ _ _ _ _ _ _ l1 _; (try k_lt l1); revert l1; intro _; (try k_sweep))) | (((with_reducible show wpAny _ _ (call (Value.type "list") [Value.str (Txt.slice (S _) (some _) none) _]) _ _ _); k_here; (with_reducible show wpAny _ _ (call (Value.type "list") [Value.str (Txt.slice (S _) (some _) none) _]) _ _ _); k_dflt (refine' g_list2 (sl_from (by omega) (by omega)) rfl (by k_asm) (by k_asm) (by (try simp only [List.length_take, List.length_drop, List.length_append]); omega) ?_); intro _ _ _ _ _ _ _ l1 _; (try k_lt l1); revert l1; intro _; (try k_sweep))) | (((with_reducible show wpAny _ _ (call (Value.type "list") [Value.str (Txt.slice (S _) none (some _)) _]) _ _ _); k_here; (with_reducible show wpAny _ _ (call (Value.type "list") [Value.str (Txt.slice (S _) none (some _)) _]) _ _ _); k_dflt (refine' g_list2 (sl_to (by omega) (by omega)) rfl (by k_asm) (by k_asm) (by (try simp only [List.length_take, List.length_drop, List.length_append]); omega) ?_); intro _ _ _ _ _ _ _ l1 _; (try k_lt l1); revert l1; intro _; (try k_sweep))) | (((with_reducible show wpAny _ _ (call (Value.type "list") [Value.str (S _) _]) _ _ _); k_here; (with_reducible show wpAny _ _ (call (Value.type "list") [Value.str (S _) _]) _ _ _); k_dflt (refine' g_list2 rfl rfl (by k_asm) (by k_asm) (by (try simp only [List.length_take, List.length_drop, List.length_append]); omega) ?_); intro _ _ _ _ _ _ _ l1 _; (try k_lt l1); revert l1; intro _; (try k_sweep))) | (((with_reducible show wpAny _ _ (call (Value.ref 35) [Value.str (S _) _, Value.str (S _) _, Value.int _ _]) _ _ _); k_here; (with_reducible show wpAny _ _ (call (Value.ref 35) [Value.str (S _) _, Value.str (S _) _, Value.int _ _]) _ _ _); k_dflt ((refine' c_lev _ _ _ _ _ _ _ _ _ _ _ (by first | omega | (simp only [List.length_append, List.length_cons, List.length_nil]; omega)) (by first | omega | (simp only [List.length_append, List.length_cons, List.length_nil]; omega)) (by omega) _ _ _ _ _ _ _ _ _ _ _ _ _ _ _ _ _ (by k_asm) (by k_asm) (by k_asm) (by with_reducible assumption) (by k_asm) (by first | exact rfl | assumption) (by ktr_room) (by ktr_units) ?_)); intro _ _ _ _ _; (try dsimp only); (try k_sweep))) | ((k_openite; (with_reducible show (if (_ != _) = true then _ else _)); first | refine ite_pos (by (simp only [bne_iff_ne, ne_eq]; omega)) ?_ | refine ite_neg (by (simp only [bne_iff_ne, ne_eq]; omega)) ?_)) | walk_at "1 step"))
  rename Fr _ _ _ _ => lF
  rename News _ _ _ _ => lN
  with_unfolding_all refine' turn12 w mean mg mb fa L cd h₀ _ Q E _ B X T hE oW oH oP tW th tt tr tP nf hfg hW here p hH hP D tl vs ck hat hD hh hp6 hs t1 t2 t3 Tt M Da va ca sa ?hn (fr_kst lF ?hk) ?hm
  case hk => kst_all
  case hm => ((repeat (refine List.forall_mem_cons.mpr ⟨lN _ (by k_mem), ?_⟩)); exact fun q hq => lN q (by (repeat (refine List.Mem.tail _ ?_)); exact hq))
  case hn => exact fun h9 tk9 m9 oH9 oP9 th9 tt9 vP9 a b c d e => hnext h9 tk9 m9 oH9 oP9 th9 tt9 vP9 a b c d e





theorem turn10 (w : World) (mean : ExcName → Option Value) (mg mb : Str → Option Value) (fa L : Addr) (cd : Value) (h₀ : Heap) (s : Shared) (Q : Flow → Shared → Prop) (E : Value → Shared → Prop) (u : Str → Option Value)
    (B : Below callerA h₀ [] h₀) (X : (hd.heap_39 w.params).In h₀) (T : Top hd.view_39 loo mean mg mb h₀) (hE : PassesOwn (model PG w) (AL L fa cd) (envLaw L fa cd) E)
    (oW oH oP : Obj) (tW th tt tr tP : Tok) (nf : List Int) (hfg : Figs nf) (hW : oW.data = .cell (some (.str (S (nf.map sig)) tW))) (here p : Int) (hH : oH.data = .cell (some (.int here th))) (hP : oP.data = .cell (some (.str (S (pieceL (nf.map sig) here.toNat false)) tP)))
    (D : Addr) (tl : CbLed) (vs : List Value) (ck : Nat) (hat : AllTup tl) (hD : @LT.lt Nat _ (L + 1 + 1 + 1 + 1 + 1) D) (hh : 0 ≤ here ∧ here ≤ 6) (hp6 : 0 ≤ p ∧ p ≤ 6) (hs : p = here + 1 ∨ p = here + 2) (t1 t2 t3 : Tok)
    (Tt M De Da Ka Kb : Addr) (vm va va2 vb2 : List Value) (cm ce ca na nb : Nat) (sa2 : StrsAre va2 ((List.take (p - here).toNat (pieceL (nf.map sig) here.toNat false)).reverse.map sg)) (sb2 : StrsAre vb2 ((List.drop (6 - (p - here).toNat) (pieceL (nf.map sig) p.toNat false)).map sg)) (sm : StrsAre vm ((List.take (p - here).toNat (pieceL (nf.map sig) here.toNat false)).reverse.map sg)) (sa : StrsAre va ((List.drop (6 - (p - here).toNat) (pieceL (nf.map sig) p.toNat false)).map sg)) (hTt : @LT.lt Nat _ (L + 1 + 1 + 1 + 1 + 1) Tt) (hM : @LT.lt Nat _ (L + 1 + 1 + 1 + 1 + 1) M) (hDe : @LT.lt Nat _ (L + 1 + 1 + 1 + 1 + 1) De) (hDa : @LT.lt Nat _ (L + 1 + 1 + 1 + 1 + 1) Da)
    (hnext : ∀ (h' : Heap) (tk' : Nat) (m' : Str → Option Value) (oH' oP' : Obj) (th' tt' : Tok) (vP' : Option Value), oH'.data = .cell (some (.int p th')) → oP'.data = .cell vP' → Fr h₀ L h' m' →
      (∀ q ∈ [(Str.ofString "pile", Value.ref D), (Str.ofString "text", Value.str (S ((nf.map sig).take (p.toNat + 6))) tt'), (Str.ofString "row", Value.bytes (bA (rowOf nf)) tr)], m' q.1 = some q.2) →
      News h₀ L h' ((D, listOf (List.toArray vs) ck) :: (L + 1 + 1 + 1, oW) :: (L + 1 + 1 + 1 + 1, oH') :: (L + 1 + 1 + 1 + 1 + 1, oP') :: tl) → Q .next { s with heap := h', toks := tk' })
    (F : Fr h₀ L s.heap (kstB u [(Str.ofString "pile", .ref D), (Str.ofString "text", .str (S ((nf.map sig).take (here.toNat + 6))) tt), (Str.ofString "row", .bytes (bA (rowOf nf)) tr), (Str.ofString "step", .int (p - here) t1), (Str.ofString "nearest", .str (S (pieceL (nf.map sig) p.toNat false)) t2), (Str.ofString "place", .int p t3), (Str.ofString "told", .ref Tt), (Str.ofString "first", .ref De), (Str.ofString "second", .ref Da), (Str.ofString "lacks", .ref Ka), (Str.ofString "comes", .ref Kb)]))
    (N : News h₀ L s.heap ((Ka, listOf (List.toArray va2) na) :: (Kb, listOf (List.toArray vb2) nb) :: (Tt, tup2 M Da) :: (M, listOf (List.toArray vm) cm) :: (De, listOf (List.toArray []) ce) :: (Da, listOf (List.toArray va) ca) :: (D, listOf (List.toArray vs) ck) :: (L + 1 + 1 + 1, oW) :: (L + 1 + 1 + 1 + 1, oH) :: (L + 1 + 1 + 1 + 1 + 1, oP) :: tl)) :
    wpAny (model PG w) (AL L fa cd) (execs ((whileBody lawW).drop 10) (envLaw L fa cd)) Q E s := by
  with_unfolding_all show wpAny _ _ (execs (_ :: _) _) _ _ _
  dsimp only [kstB] at F
  have hll : (nf.map sig).length = 12 := by rw [List.length_map, hfg.1]
  have hsl : (S (nf.map sig)).length = 12 := by rw [S_length, hll]
  have hq1 := piece_len hfg hh false
  have hq2 := piece_len hfg hp6 false
  have hq3 : (S (pieceL (nf.map sig) here.toNat false)).length = 6 := by rw [S_length, hq1]
  have hq4 : (S (pieceL (nf.map sig) p.toNat false)).length = 6 := by rw [S_length, hq2]
  have hk0 : (6 - (p - here)).toNat = 6 - (p - here).toNat := by omega
  have hcx : ∀ c ∈ (List.take (p - here).toNat (pieceL (nf.map sig) here.toNat false)).reverse, c < 128 := fun c hc => chars_pc hfg c (List.mem_of_mem_take (List.mem_reverse.mp hc))
  have hcy : ∀ c ∈ List.drop (6 - (p - here).toNat) (pieceL (nf.map sig) p.toNat false), c < 128 := fun c hc => chars_pc hfg c (List.mem_of_mem_drop hc)
  repeat' ((fail_if_success (with_reducible show wpAny _ _ (PySem.execs [_, _, _, _, _] _) _ _ _)); (first | (((with_reducible show wpAny _ _ (binaryOp _ (Value.ref _) (Value.ref _)) _ _ _); k_here; (with_reducible show wpAny _ _ (binaryOp _ (Value.ref _) (Value.ref _)) _ _ _); k_dflt (refine' g_addS ?F ?N ?a ?b ?s1 ?s2 ?z ?_; (case F => k_asm); (case N => k_asm); (case a => k_mem); (case b => k_mem); (case s1 => assumption); (case s2 => assumption); (case z => (simp only [List.length_reverse, List.length_take]; omega))); intro _ _ _ _ l1 _; (try k_lt l1); revert l1; intro _; (try k_sweep))) | (((with_reducible show wpAny _ _ (subscriptTail _ (PySem.Expr.Slice none none (some _) _) (Value.ref _) (Value.ref _)) _ _ _); k_here; (with_reducible show wpAny _ _ (subscriptTail _ (PySem.Expr.Slice none none (some _) _) (Value.ref _) (Value.ref _)) _ _ _); k_dflt (refine' g_revS ?F ?N ?l ?S ?n ?k ?_ ?s ?t; (case F => k_asm); (case N => k_asm); (case l => k_mem); (case S => assumption); (case n => omega); (case k => exact IsPart.int _ _); (case s => with_unfolding_all rfl); (case t => kmk_pure)); intro _ _ _ _ l1 _; (try k_lt l1); revert l1; intro _; (try k_sweep))) | (((with_reducible show wpAny _ _ (call (Value.ref 35) [Value.str (S _ ++ _) _, Value.str (S _ ++ _) _, Value.int _ _]) _ _ _); k_here; (with_reducible show wpAny _ _ (call (Value.ref 35) [Value.str (S _ ++ _) _, Value.str (S _ ++ _) _, Value.int _ _]) _ _ _); (simp only [bang, quest]); k_dflt ((refine' c_lev _ _ _ _ _ _ _ _ _ _ _ (by first | omega | (simp only [List.length_append, List.length_cons, List.length_nil]; omega)) (by first | omega | (simp only [List.length_append, List.length_cons, List.length_nil]; omega)) (by omega) _ _ _ _ _ _ _ _ _ _ _ _ _ _ _ _ _ (by k_asm) (by k_asm) (by k_asm) (by with_reducible assumption) (by k_asm) (by first | exact rfl | assumption) (by ktr_room) (by ktr_units) ?_)); intro _ _ _ _ _; (try dsimp only); (try k_sweep))) | (((with_reducible show wpAny _ _ (call (Value.builtin "str.join") [Value.str _ _, Value.ref _]) _ _ _); k_here; (with_reducible show wpAny _ _ (call (Value.builtin "str.join") [Value.str _ _, Value.ref _]) _ _ _); k_dflt (refine' g_join ?N ?m ?s ?n ?_; (case N => k_asm); (case m => k_mem); (case s => assumption); (case n => (rw [List.length_drop]; omega))); intro _ _)) | (((with_reducible show wpAny _ _ (compareOp CmpOp.NotEq (Value.ref _) (Value.ref _)) _ _ _); k_here; (with_reducible show wpAny _ _ (compareOp CmpOp.NotEq (Value.ref _) (Value.ref _)) _ _ _); k_dflt (refine' g_ne ?N ?a1 ?a2 ?a3 ?a4 ?a5 ?a6 ?s1 ?s2 ?s3 ?s4 ?x ?y ?u ?_; (case N => k_asm); (case a1 => k_mem); (case a2 => k_mem); (case a3 => k_mem); (case a4 => k_mem); (case a5 => k_mem); (case a6 => k_mem); (case s1 => assumption); (case s2 => assumption); (case s3 => first | assumption | exact strs_revM (by assumption)); (case s4 => assumption); (case x => assumption); (case y => assumption); (case u => ktr_units)))) | (((with_reducible show wpAny _ _ (call (Value.type "list") [Value.str (S _ ++ S _) _]) _ _ _); k_here; (with_reducible show wpAny _ _ (call (Value.type "list") [Value.str (S _ ++ S _) _]) _ _ _); k_dflt (refine' g_list2 (S_append _ _) rfl (by k_asm) (by k_asm) (by (try simp only [List.length_take, List.length_drop, List.length_append]); omega) ?_); intro _ _ _ _ _ _ _ l1 _; (try k_lt l1); revert l1; intro _; (try k_sweep))) | (((with_reducible show wpAny _ _ (call (Value.type "list") [Value.str (Txt.slice (S _) (some _) none) _]) _ _ _); k_here; (with_reducible show wpAny _ _ (call (Value.type "list") [Value.str (Txt.slice (S _) (some _) none) _]) _ _ _); k_dflt (refine' g_list2 (sl_from (by omega) (by omega)) rfl (by k_asm) (by k_asm) (by (try simp only [List.length_take, List.length_drop, List.length_append]); omega) ?_); intro _ _ _ _ _ _ _ l1 _; (try k_lt l1); revert l1; intro _; (try k_sweep))) | (((with_reducible show wpAny _ _ (call (Value.type "list") [Value.str (Txt.slice (S _) none (some _)) _]) _ _ _); k_here; (with_reducible show wpAny _ _ (call (Value.type "list") [Value.str (Txt.slice (S _) none (some _)) _]) _ _ _); k_dflt (refine' g_list2 (sl_to (by omega) (by omega)) rfl (by k_asm) (by k_asm) (by (try simp only [List.length_take, List.length_drop, List.length_append]); omega) ?_); intro _ _ _ _ _ _ _ l1 _; (try k_lt l1); revert l1; intro _; (try k_sweep))) | (((with_reducible show wpAny _ _ (call (Value.type "list") [Value.str (S _) _]) _ _ _); k_here; (with_reducible show wpAny _ _ (call (Value.type "list") [Value.str (S _) _]) _ _ _); k_dflt (refine' g_list2 rfl rfl (by k_asm) (by k_asm) (by (try simp only [List.length_take, List.length_drop, List.length_append]); omega) ?_); intro _ _ _ _ _ _ _ l1 _; (try k_lt l1); revert l1; intro _; (try k_sweep))) | (((with_reducible show wpAny _ _ (call (Value.ref 35) [Value.str (S _) _, Value.str (S _) _, Value.int _ _]) _ _ _); k_here; (with_reducible show wpAny _ _ (call (Value.ref 35) [Value.str (S _) _, Value.str (S _) _, Value.int _ _]) _ _ _); k_dflt ((refine' c_lev _ _ _ _ _ _ _ _ _ _ _ (by first | omega | (simp only [List.length_append, List.length_cons, List.length_nil]; omega)) (by first | omega | (simp only [List.length_append, List.length_cons, List.length_nil]; omega)) (by omega) _ _ _ _ _ _ _ _ _ _ _ _ _ _ _ _ _ (by k_asm) (by k_asm) (by k_asm) (by with_reducible assumption) (by k_asm) (by first | exact rfl | assumption) (by ktr_room) (by ktr_units) ?_)); intro _ _ _ _ _; (try dsimp only); (try k_sweep))) | ((k_openite; (with_reducible show (if (_ != _) = true then _ else _)); first | refine ite_pos (by (simp only [bne_iff_ne, ne_eq]; omega)) ?_ | refine ite_neg (by (simp only [bne_iff_ne, ne_eq]; omega)) ?_)) | walk_at "1 step"))
  rename Fr _ _ _ _ => lF
  rename News _ _ _ _ => lN
  with_unfolding_all refine' turn11 w mean mg mb fa L cd h₀ _ Q E _ B X T hE oW oH oP tW th tt tr tP nf hfg hW here p hH hP D tl vs ck hat hD hh hp6 hs t1 t2 t3 Tt M Da Ka Kb va va2 vb2 ca na nb sa sa2 sb2 ?hn (fr_kst lF ?hk) ?hm
  case hk => kst_all
  case hm => ((repeat (refine List.forall_mem_cons.mpr ⟨lN _ (by k_mem), ?_⟩)); exact fun q hq => lN q (by (repeat (refine List.Mem.tail _ ?_)); exact hq))
  case hn => exact fun h9 tk9 m9 oH9 oP9 th9 tt9 vP9 a b c d e => hnext h9 tk9 m9 oH9 oP9 th9 tt9 vP9 a b c d e





theorem turn9 (w : World) (mean : ExcName → Option Value) (mg mb : Str → Option Value) (fa L : Addr) (cd : Value) (h₀ : Heap) (s : Shared) (Q : Flow → Shared → Prop) (E : Value → Shared → Prop) (u : Str → Option Value)
    (B : Below callerA h₀ [] h₀) (X : (hd.heap_39 w.params).In h₀) (T : Top hd.view_39 loo mean mg mb h₀) (hE : PassesOwn (model PG w) (AL L fa cd) (envLaw L fa cd) E)
    (oW oH oP : Obj) (tW th tt tr tP : Tok) (nf : List Int) (hfg : Figs nf) (hW : oW.data = .cell (some (.str (S (nf.map sig)) tW))) (here p : Int) (hH : oH.data = .cell (some (.int here th))) (hP : oP.data = .cell (some (.str (S (pieceL (nf.map sig) here.toNat false)) tP)))
    (D : Addr) (tl : CbLed) (vs : List Value) (ck : Nat) (hat : AllTup tl) (hD : @LT.lt Nat _ (L + 1 + 1 + 1 + 1 + 1) D) (hh : 0 ≤ here ∧ here ≤ 6) (hp6 : 0 ≤ p ∧ p ≤ 6) (hs : p = here + 1 ∨ p = here + 2) (t1 t2 t3 : Tok)
    (Tt M De Da : Addr) (vm va : List Value) (cm ce ca : Nat) (sm : StrsAre vm ((List.take (p - here).toNat (pieceL (nf.map sig) here.toNat false)).reverse.map sg)) (sa : StrsAre va ((List.drop (6 - (p - here).toNat) (pieceL (nf.map sig) p.toNat false)).map sg)) (hTt : @LT.lt Nat _ (L + 1 + 1 + 1 + 1 + 1) Tt) (hM : @LT.lt Nat _ (L + 1 + 1 + 1 + 1 + 1) M) (hDe : @LT.lt Nat _ (L + 1 + 1 + 1 + 1 + 1) De) (hDa : @LT.lt Nat _ (L + 1 + 1 + 1 + 1 + 1) Da)
    (hnext : ∀ (h' : Heap) (tk' : Nat) (m' : Str → Option Value) (oH' oP' : Obj) (th' tt' : Tok) (vP' : Option Value), oH'.data = .cell (some (.int p th')) → oP'.data = .cell vP' → Fr h₀ L h' m' →
      (∀ q ∈ [(Str.ofString "pile", Value.ref D), (Str.ofString "text", Value.str (S ((nf.map sig).take (p.toNat + 6))) tt'), (Str.ofString "row", Value.bytes (bA (rowOf nf)) tr)], m' q.1 = some q.2) →
      News h₀ L h' ((D, listOf (List.toArray vs) ck) :: (L + 1 + 1 + 1, oW) :: (L + 1 + 1 + 1 + 1, oH') :: (L + 1 + 1 + 1 + 1 + 1, oP') :: tl) → Q .next { s with heap := h', toks := tk' })
    (F : Fr h₀ L s.heap (kstB u [(Str.ofString "pile", .ref D), (Str.ofString "text", .str (S ((nf.map sig).take (here.toNat + 6))) tt), (Str.ofString "row", .bytes (bA (rowOf nf)) tr), (Str.ofString "step", .int (p - here) t1), (Str.ofString "nearest", .str (S (pieceL (nf.map sig) p.toNat false)) t2), (Str.ofString "place", .int p t3), (Str.ofString "told", .ref Tt), (Str.ofString "first", .ref De), (Str.ofString "second", .ref Da)]))
    (N : News h₀ L s.heap ((Tt, tup2 M Da) :: (M, listOf (List.toArray vm) cm) :: (De, listOf (List.toArray []) ce) :: (Da, listOf (List.toArray va) ca) :: (D, listOf (List.toArray vs) ck) :: (L + 1 + 1 + 1, oW) :: (L + 1 + 1 + 1 + 1, oH) :: (L + 1 + 1 + 1 + 1 + 1, oP) :: tl)) :
    wpAny (model PG w) (AL L fa cd) (execs ((whileBody lawW).drop 9) (envLaw L fa cd)) Q E s := by
  with_unfolding_all show wpAny _ _ (execs (_ :: _) _) _ _ _
  dsimp only [kstB] at F
  have hll : (nf.map sig).length = 12 := by rw [List.length_map, hfg.1]
  have hsl : (S (nf.map sig)).length = 12 := by rw [S_length, hll]
  have hq1 := piece_len hfg hh false
  have hq2 := piece_len hfg hp6 false
  have hq3 : (S (pieceL (nf.map sig) here.toNat false)).length = 6 := by rw [S_length, hq1]
  have hq4 : (S (pieceL (nf.map sig) p.toNat false)).length = 6 := by rw [S_length, hq2]
  have hk0 : (6 - (p - here)).toNat = 6 - (p - here).toNat := by omega
  have hcx : ∀ c ∈ (List.take (p - here).toNat (pieceL (nf.map sig) here.toNat false)).reverse, c < 128 := fun c hc => chars_pc hfg c (List.mem_of_mem_take (List.mem_reverse.mp hc))
  have hcy : ∀ c ∈ List.drop (6 - (p - here).toNat) (pieceL (nf.map sig) p.toNat false), c < 128 := fun c hc => chars_pc hfg c (List.mem_of_mem_drop hc)
  repeat' ((fail_if_success (with_reducible show wpAny _ _ (PySem.execs [_, _, _, _, _, _] _) _ _ _)); (first | (((with_reducible show wpAny _ _ (binaryOp _ (Value.ref _) (Value.ref _)) _ _ _); k_here; (with_reducible show wpAny _ _ (binaryOp _ (Value.ref _) (Value.ref _)) _ _ _); k_dflt (refine' g_addS ?F ?N ?a ?b ?s1 ?s2 ?z ?_; (case F => k_asm); (case N => k_asm); (case a => k_mem); (case b => k_mem); (case s1 => assumption); (case s2 => assumption); (case z => (simp only [List.length_reverse, List.length_take]; omega))); intro _ _ _ _ l1 _; (try k_lt l1); revert l1; intro _; (try k_sweep))) | (((with_reducible show wpAny _ _ (subscriptTail _ (PySem.Expr.Slice none none (some _) _) (Value.ref _) (Value.ref _)) _ _ _); k_here; (with_reducible show wpAny _ _ (subscriptTail _ (PySem.Expr.Slice none none (some _) _) (Value.ref _) (Value.ref _)) _ _ _); k_dflt (refine' g_revS ?F ?N ?l ?S ?n ?k ?_ ?s ?t; (case F => k_asm); (case N => k_asm); (case l => k_mem); (case S => assumption); (case n => omega); (case k => exact IsPart.int _ _); (case s => with_unfolding_all rfl); (case t => kmk_pure)); intro _ _ _ _ l1 _; (try k_lt l1); revert l1; intro _; (try k_sweep))) | (((with_reducible show wpAny _ _ (call (Value.ref 35) [Value.str (S _ ++ _) _, Value.str (S _ ++ _) _, Value.int _ _]) _ _ _); k_here; (with_reducible show wpAny _ _ (call (Value.ref 35) [Value.str (S _ ++ _) _, Value.str (S _ ++ _) _, Value.int _ _]) _ _ _); (simp only [bang, quest]); k_dflt ((refine' c_lev _ _ _ _ _ _ _ _ _ _ _ (by first | omega | (simp only [List.length_append, List.length_cons, List.length_nil]; omega)) (by first | omega | (simp only [List.length_append, List.length_cons, List.length_nil]; omega)) (by omega) _ _ _ _ _ _ _ _ _ _ _ _ _ _ _ _ _ (by k_asm) (by k_asm) (by k_asm) (by with_reducible assumption) (by k_asm) (by first | exact rfl | assumption) (by ktr_room) (by ktr_units) ?_)); intro _ _ _ _ _; (try dsimp only); (try k_sweep))) | (((with_reducible show wpAny _ _ (call (Value.builtin "str.join") [Value.str _ _, Value.ref _]) _ _ _); k_here; (with_reducible show wpAny _ _ (call (Value.builtin "str.join") [Value.str _ _, Value.ref _]) _ _ _); k_dflt (refine' g_join ?N ?m ?s ?n ?_; (case N => k_asm); (case m => k_mem); (case s => assumption); (case n => (rw [List.length_drop]; omega))); intro _ _)) | (((with_reducible show wpAny _ _ (compareOp CmpOp.NotEq (Value.ref _) (Value.ref _)) _ _ _); k_here; (with_reducible show wpAny _ _ (compareOp CmpOp.NotEq (Value.ref _) (Value.ref _)) _ _ _); k_dflt (refine' g_ne ?N ?a1 ?a2 ?a3 ?a4 ?a5 ?a6 ?s1 ?s2 ?s3 ?s4 ?x ?y ?u ?_; (case N => k_asm); (case a1 => k_mem); (case a2 => k_mem); (case a3 => k_mem); (case a4 => k_mem); (case a5 => k_mem); (case a6 => k_mem); (case s1 => assumption); (case s2 => assumption); (case s3 => first | assumption | exact strs_revM (by assumption)); (case s4 => assumption); (case x => assumption); (case y => assumption); (case u => ktr_units)))) | (((with_reducible show wpAny _ _ (call (Value.type "list") [Value.str (S _ ++ S _) _]) _ _ _); k_here; (with_reducible show wpAny _ _ (call (Value.type "list") [Value.str (S _ ++ S _) _]) _ _ _); k_dflt (refine' g_list2 (S_append _ _) rfl (by k_asm) (by k_asm) (by (try simp only [List.length_take, List.length_drop, List.length_append]); omega) ?_); intro _ _ _ _ _ _ _ l1 _; (try k_lt l1); revert l1; intro _; (try k_sweep))) | (((with_reducible show wpAny _ _ (call (Value.type "list") [Value.str (Txt.slice (S _) (some _) none) _]) _ _ _); k_here; (with_reducible show wpAny _ _ (call (Value.type "list") [Value.str (Txt.slice (S _) (some _) none) _]) _ _ _); k_dflt (refine' g_list2 (sl_from (by omega) (by omega)) rfl (by k_asm) (by k_asm) (by (try simp only [List.length_take, List.length_drop, List.length_append]); omega) ?_); intro _ _ _ _ _ _ _ l1 _; (try k_lt l1); revert l1; intro _; (try k_sweep))) | (((with_reducible show wpAny _ _ (call (Value.type "list") [Value.str (Txt.slice (S _) none (some _)) _]) _ _ _); k_here; (with_reducible show wpAny _ _ (call (Value.type "list") [Value.str (Txt.slice (S _) none (some _)) _]) _ _ _); k_dflt (refine' g_list2 (sl_to (by omega) (by omega)) rfl (by k_asm) (by k_asm) (by (try simp only [List.length_take, List.length_drop, List.length_append]); omega) ?_); intro _ _ _ _ _ _ _ l1 _; (try k_lt l1); revert l1; intro _; (try k_sweep))) | (((with_reducible show wpAny _ _ (call (Value.type "list") [Value.str (S _) _]) _ _ _); k_here; (with_reducible show wpAny _ _ (call (Value.type "list") [Value.str (S _) _]) _ _ _); k_dflt (refine' g_list2 rfl rfl (by k_asm) (by k_asm) (by (try simp only [List.length_take, List.length_drop, List.length_append]); omega) ?_); intro _ _ _ _ _ _ _ l1 _; (try k_lt l1); revert l1; intro _; (try k_sweep))) | (((with_reducible show wpAny _ _ (call (Value.ref 35) [Value.str (S _) _, Value.str (S _) _, Value.int _ _]) _ _ _); k_here; (with_reducible show wpAny _ _ (call (Value.ref 35) [Value.str (S _) _, Value.str (S _) _, Value.int _ _]) _ _ _); k_dflt ((refine' c_lev _ _ _ _ _ _ _ _ _ _ _ (by first | omega | (simp only [List.length_append, List.length_cons, List.length_nil]; omega)) (by first | omega | (simp only [List.length_append, List.length_cons, List.length_nil]; omega)) (by omega) _ _ _ _ _ _ _ _ _ _ _ _ _ _ _ _ _ (by k_asm) (by k_asm) (by k_asm) (by with_reducible assumption) (by k_asm) (by first | exact rfl | assumption) (by ktr_room) (by ktr_units) ?_)); intro _ _ _ _ _; (try dsimp only); (try k_sweep))) | ((k_openite; (with_reducible show (if (_ != _) = true then _ else _)); first | refine ite_pos (by (simp only [bne_iff_ne, ne_eq]; omega)) ?_ | refine ite_neg (by (simp only [bne_iff_ne, ne_eq]; omega)) ?_)) | walk_at "1 step"))
  rename Fr _ _ _ _ => lF
  rename News _ _ _ _ => lN
  (try simp only [krv_pick] at lN)
  with_unfolding_all refine' turn10 w mean mg mb fa L cd h₀ _ Q E _ B X T hE oW oH oP tW th tt tr tP nf hfg hW here p hH hP D tl vs ck hat hD hh hp6 hs t1 t2 t3 Tt M De Da _ _ vm va _ _ cm ce ca _ _ ?s1 ?s2 sm sa hTt hM hDe hDa ?hn (fr_kst lF ?hk) ?hm
  case hk => kst_all
  case hm => ((repeat (refine List.forall_mem_cons.mpr ⟨lN _ (by k_mem), ?_⟩)); exact fun q hq => lN q (by (repeat (refine List.Mem.tail _ ?_)); exact hq))
  case s1 => first | assumption | exact strs_revM (by assumption)
  case s2 => (rw [← hk0]; assumption)
  case hn => exact fun h9 tk9 m9 oH9 oP9 th9 tt9 vP9 a b c d e => hnext h9 tk9 m9 oH9 oP9 th9 tt9 vP9 a b c d e
end
section








theorem turn7 (w : World) (mean : ExcName → Option Value) (mg mb : Str → Option Value) (fa L : Addr) (cd : Value) (h₀ : Heap) (s : Shared) (Q : Flow → Shared → Prop) (E : Value → Shared → Prop) (u : Str → Option Value)
    (B : Below callerA h₀ [] h₀) (X : (hd.heap_39 w.params).In h₀) (T : Top hd.view_39 loo mean mg mb h₀) (hE : PassesOwn (model PG w) (AL L fa cd) (envLaw L fa cd) E)
    (oW oH oP : Obj) (tW th tt tr tP : Tok) (nf : List Int) (hfg : Figs nf) (hW : oW.data = .cell (some (.str (S (nf.map sig)) tW))) (here p : Int) (hH : oH.data = .cell (some (.int here th))) (hP : oP.data = .cell (some (.str (S (pieceL (nf.map sig) here.toNat false)) tP)))
    (D : Addr) (tl : CbLed) (vs : List Value) (ck : Nat) (hat : AllTup tl) (hD : @LT.lt Nat _ (L + 1 + 1 + 1 + 1 + 1) D) (hh : 0 ≤ here ∧ here ≤ 6) (hp6 : 0 ≤ p ∧ p ≤ 6) (hs : p = here + 1 ∨ p = here + 2) (t1 t2 t3 : Tok)
    (hnext : ∀ (h' : Heap) (tk' : Nat) (m' : Str → Option Value) (oH' oP' : Obj) (th' tt' : Tok) (vP' : Option Value), oH'.data = .cell (some (.int p th')) → oP'.data = .cell vP' → Fr h₀ L h' m' →
      (∀ q ∈ [(Str.ofString "pile", Value.ref D), (Str.ofString "text", Value.str (S ((nf.map sig).take (p.toNat + 6))) tt'), (Str.ofString "row", Value.bytes (bA (rowOf nf)) tr)], m' q.1 = some q.2) →
      News h₀ L h' ((D, listOf (List.toArray vs) ck) :: (L + 1 + 1 + 1, oW) :: (L + 1 + 1 + 1 + 1, oH') :: (L + 1 + 1 + 1 + 1 + 1, oP') :: tl) → Q .next { s with heap := h', toks := tk' })
    (F : Fr h₀ L s.heap (kstB u [(Str.ofString "pile", .ref D), (Str.ofString "text", .str (S ((nf.map sig).take (here.toNat + 6))) tt), (Str.ofString "row", .bytes (bA (rowOf nf)) tr), (Str.ofString "step", .int (p - here) t1), (Str.ofString "nearest", .str (S (pieceL (nf.map sig) p.toNat false)) t2), (Str.ofString "place", .int p t3)]))
    (N : News h₀ L s.heap ((D, listOf (List.toArray vs) ck) :: (L + 1 + 1 + 1, oW) :: (L + 1 + 1 + 1 + 1, oH) :: (L + 1 + 1 + 1 + 1 + 1, oP) :: tl)) :
    wpAny (model PG w) (AL L fa cd) (execs ((whileBody lawW).drop 7) (envLaw L fa cd)) Q E s := by
  with_unfolding_all show wpAny _ _ (execs (_ :: _) _) _ _ _
  dsimp only [kstB] at F
  have hll : (nf.map sig).length = 12 := by rw [List.length_map, hfg.1]
  have hsl : (S (nf.map sig)).length = 12 := by rw [S_length, hll]
  have hT4 : ∀ q ∈ tl, q.1 ≠ L + 1 + 1 + 1 + 1 := tl_cell N (fun q hq => .tail _ (.tail _ (.tail _ (.tail _ hq)))) hat (by k_mem) hH
  have hT5 : ∀ q ∈ tl, q.1 ≠ L + 1 + 1 + 1 + 1 + 1 := tl_cell N (fun q hq => .tail _ (.tail _ (.tail _ (.tail _ hq)))) hat (by k_mem) hP
  have hTD : ∀ q ∈ tl, q.1 ≠ D := tl_list N (fun q hq => .tail _ (.tail _ (.tail _ (.tail _ hq)))) hat (by k_mem)
  have hq1 := piece_len hfg hh false
  have hq2 := piece_len hfg hp6 false
  have hq3 : (S (pieceL (nf.map sig) here.toNat false)).length = 6 := by rw [S_length, hq1]
  have hq4 : (S (pieceL (nf.map sig) p.toNat false)).length = 6 := by rw [S_length, hq2]
  repeat' ((fail_if_success (with_reducible show wpAny _ _ (call (Value.ref 123) _) _ _ _)); (first | (((with_reducible show wpAny _ _ (call (Value.builtin "list.pop") [Value.ref _, Value.int _ _]) _ _ _); k_here; (with_reducible show wpAny _ _ (call (Value.builtin "list.pop") [Value.ref _, Value.int _ _]) _ _ _); k_dflt (refine' l_popAt (by k_asm) (by k_asm) (by k_upd) (by omega) (by with_reducible assumption) (by omega) ?_); intro _ _ N'; (try dsimp only [List.nil_append, List.cons_append] at N'); revert N'; intro _)) | (((with_reducible show wpAny _ _ (call (Value.builtin "list.index") [Value.ref _, Value.int _ _]) _ _ _); k_here; (with_reducible show wpAny _ _ (call (Value.builtin "list.index") [Value.ref _, Value.int _ _]) _ _ _); k_dflt (refine' g_index (by k_asm) (by k_mem) (by with_reducible assumption) (by assumption) (by assumption) (by assumption) ?_); intro _ _)) | (((with_reducible show wpAny _ _ (call (Value.builtin "min") [Value.ref _]) _ _ _); k_here; (with_reducible show wpAny _ _ (call (Value.builtin "min") [Value.ref _]) _ _ _); k_dflt (refine' g_min (by k_asm) (by k_asm) (by k_mem) (by with_reducible assumption) rfl (by assumption) (by assumption) ?_); intro _ _ _ _ _)) | (((with_reducible show wpAny _ _ (call (Value.type "list") [Value.str (S _) _]) _ _ _); k_here; (with_reducible show wpAny _ _ (call (Value.type "list") [Value.str (S _) _]) _ _ _); k_dflt (refine' g_list2 rfl rfl (by k_asm) (by k_asm) (by (try simp only [List.length_take, List.length_drop, List.length_append]); omega) ?_); intro _ _ _ _ _ _ _ l1 _; (try k_lt l1); revert l1; intro _; (try k_sweep))) | (((with_reducible show wpAny _ _ (call (Value.ref 35) [Value.str (S _) _, Value.str (S _) _, Value.int _ _]) _ _ _); k_here; (with_reducible show wpAny _ _ (call (Value.ref 35) [Value.str (S _) _, Value.str (S _) _, Value.int _ _]) _ _ _); k_dflt ((refine' c_lev _ _ _ _ _ _ _ _ _ _ _ (by first | omega | (simp only [List.length_append, List.length_cons, List.length_nil]; omega)) (by first | omega | (simp only [List.length_append, List.length_cons, List.length_nil]; omega)) (by omega) _ _ _ _ _ _ _ _ _ _ _ _ _ _ _ _ _ (by k_asm) (by k_asm) (by k_asm) (by with_reducible assumption) (by k_asm) (by first | exact rfl | assumption) (by ktr_room) (by ktr_units) ?_)); intro _ _ _ _ _; (try dsimp only); (try k_sweep))) | (((with_reducible show wpAny _ _ (call (Value.ref 142) [Value.int _ _, Value.int _ _, Value.bool _]) _ _ _); k_here; (with_reducible show wpAny _ _ (call (Value.ref 142) [Value.int _ _, Value.int _ _, Value.bool _]) _ _ _); k_dflt ((refine' c_far _ _ _ _ _ _ _ _ _ _ (by omega) (by omega) _ _ _ _ _ _ _ _ _ _ _ _ _ _ _ _ _ (by k_asm) (by k_asm) (by k_asm) (by with_reducible assumption) (by k_asm) (by first | exact rfl | assumption) (by ktr_room) (by ktr_units) ?_)); intro _ _ _ _ _; (try dsimp only); (try k_sweep))) | (((with_reducible show wpAny _ _ (call (Value.ref 149) [Value.str (S _) _, Value.int _ _, Value.bool _]) _ _ _); k_here; (with_reducible show wpAny _ _ (call (Value.ref 149) [Value.str (S _) _, Value.int _ _, Value.bool _]) _ _ _); k_dflt ((refine' c_piece _ _ _ _ _ _ _ _ _ _ (by assumption) (by omega) _ _ _ _ _ _ _ _ _ _ _ _ _ _ _ _ _ (by k_asm) (by k_asm) (by k_asm) (by with_reducible assumption) (by k_asm) (by first | exact rfl | assumption) (by ktr_room) (by ktr_units) ?_)); intro _ _ _ _ _; (try dsimp only); (try k_sweep))) | (((with_reducible show wpAny _ _ (call (Value.type _) [_]) _ _ _); first | (refine call_type_of (typeIs_bytes _ _ _) (by decide) ?_) | (refine call_type_of (typeIs_str _ _ _) (by decide) ?_) | (refine call_type_of (typeIs_bool _ _) (by decide) ?_) | (refine call_type_of (typeIs_int _ _ _) (by decide) ?_))) | walk_at "1 step"))
  rename_i De ve ne _ _ hSe hle Da va na _ _ hSa hla T0 _ hlt0 _ _ _ lF lN
  refine c_uld w mean mg mb ((D, listOf (List.toArray vs) ck) :: (L + 1 + 1 + 1, oW) :: (L + 1 + 1 + 1 + 1, oH) :: (L + 1 + 1 + 1 + 1 + 1, oP) :: tl) (pieceL (nf.map sig) here.toNat false) (pieceL (nf.map sig) p.toNat false) De Da ve va ne na (Nat.ne_of_lt hla.1) (fun q hq => Nat.ne_of_lt (kst_ltOf (show AllLt De ((D, listOf (List.toArray vs) ck) :: (L + 1 + 1 + 1, oW) :: (L + 1 + 1 + 1 + 1, oH) :: (L + 1 + 1 + 1 + 1 + 1, oP) :: tl) from hle) q hq)) (fun q hq => Nat.ne_of_lt (kst_ltOf (show AllLt Da ((D, listOf (List.toArray vs) ck) :: (L + 1 + 1 + 1, oW) :: (L + 1 + 1 + 1 + 1, oH) :: (L + 1 + 1 + 1 + 1 + 1, oP) :: tl) from hla.2) q hq)) hSe hSa (by omega) (by omega) _ _ _ _ _ _ _ _ h₀ L _ _ _ _ lF X (fun q hq => lN q ?_) T rfl (by ktr_room) (by ktr_units) ?_
  · simp only [List.mem_cons] at hq ⊢
    rcases hq with h | h | h | h | h | h | h <;> simp [h]
  intro Tt M vm va' cm ca' ce' h' tk' s1 s2 l1 l2 l3 l4 F9 N9
  rw [uld_pc1 hfg hh hp6 hs] at s1 s2
  have hDL : @LT.lt Nat _ (L + 1 + 1 + 1 + 1 + 1) De := hle.2.2.2.1
  have hDaL : @LT.lt Nat _ (L + 1 + 1 + 1 + 1 + 1) Da := hla.2.2.2.2.1
  have hML : @LT.lt Nat _ (L + 1 + 1 + 1 + 1 + 1) M := Nat.lt_trans hDL l2
  have hTL : @LT.lt Nat _ (L + 1 + 1 + 1 + 1 + 1) Tt := Nat.lt_trans hML l1
  clear lF lN
  (try k_fold)
  repeat' ((fail_if_success (with_reducible show wpAny _ _ (PySem.execs [_, _, _, _, _, _, _] _) _ _ _)); (first | (((with_reducible show wpAny _ _ (call (Value.builtin "list.pop") [Value.ref _, Value.int _ _]) _ _ _); k_here; (with_reducible show wpAny _ _ (call (Value.builtin "list.pop") [Value.ref _, Value.int _ _]) _ _ _); k_dflt (refine' l_popAt (by k_asm) (by k_asm) (by k_upd) (by omega) (by with_reducible assumption) (by omega) ?_); intro _ _ N'; (try dsimp only [List.nil_append, List.cons_append] at N'); revert N'; intro _)) | (((with_reducible show wpAny _ _ (call (Value.builtin "list.index") [Value.ref _, Value.int _ _]) _ _ _); k_here; (with_reducible show wpAny _ _ (call (Value.builtin "list.index") [Value.ref _, Value.int _ _]) _ _ _); k_dflt (refine' g_index (by k_asm) (by k_mem) (by with_reducible assumption) (by assumption) (by assumption) (by assumption) ?_); intro _ _)) | (((with_reducible show wpAny _ _ (call (Value.builtin "min") [Value.ref _]) _ _ _); k_here; (with_reducible show wpAny _ _ (call (Value.builtin "min") [Value.ref _]) _ _ _); k_dflt (refine' g_min (by k_asm) (by k_asm) (by k_mem) (by with_reducible assumption) rfl (by assumption) (by assumption) ?_); intro _ _ _ _ _)) | (((with_reducible show wpAny _ _ (call (Value.type "list") [Value.str (S _) _]) _ _ _); k_here; (with_reducible show wpAny _ _ (call (Value.type "list") [Value.str (S _) _]) _ _ _); k_dflt (refine' g_list2 rfl rfl (by k_asm) (by k_asm) (by (try simp only [List.length_take, List.length_drop, List.length_append]); omega) ?_); intro _ _ _ _ _ _ _ l1 _; (try k_lt l1); revert l1; intro _; (try k_sweep))) | (((with_reducible show wpAny _ _ (call (Value.ref 35) [Value.str (S _) _, Value.str (S _) _, Value.int _ _]) _ _ _); k_here; (with_reducible show wpAny _ _ (call (Value.ref 35) [Value.str (S _) _, Value.str (S _) _, Value.int _ _]) _ _ _); k_dflt ((refine' c_lev _ _ _ _ _ _ _ _ _ _ _ (by first | omega | (simp only [List.length_append, List.length_cons, List.length_nil]; omega)) (by first | omega | (simp only [List.length_append, List.length_cons, List.length_nil]; omega)) (by omega) _ _ _ _ _ _ _ _ _ _ _ _ _ _ _ _ _ (by k_asm) (by k_asm) (by k_asm) (by with_reducible assumption) (by k_asm) (by first | exact rfl | assumption) (by ktr_room) (by ktr_units) ?_)); intro _ _ _ _ _; (try dsimp only); (try k_sweep))) | (((with_reducible show wpAny _ _ (call (Value.ref 142) [Value.int _ _, Value.int _ _, Value.bool _]) _ _ _); k_here; (with_reducible show wpAny _ _ (call (Value.ref 142) [Value.int _ _, Value.int _ _, Value.bool _]) _ _ _); k_dflt ((refine' c_far _ _ _ _ _ _ _ _ _ _ (by omega) (by omega) _ _ _ _ _ _ _ _ _ _ _ _ _ _ _ _ _ (by k_asm) (by k_asm) (by k_asm) (by with_reducible assumption) (by k_asm) (by first | exact rfl | assumption) (by ktr_room) (by ktr_units) ?_)); intro _ _ _ _ _; (try dsimp only); (try k_sweep))) | (((with_reducible show wpAny _ _ (call (Value.ref 149) [Value.str (S _) _, Value.int _ _, Value.bool _]) _ _ _); k_here; (with_reducible show wpAny _ _ (call (Value.ref 149) [Value.str (S _) _, Value.int _ _, Value.bool _]) _ _ _); k_dflt ((refine' c_piece _ _ _ _ _ _ _ _ _ _ (by assumption) (by omega) _ _ _ _ _ _ _ _ _ _ _ _ _ _ _ _ _ (by k_asm) (by k_asm) (by k_asm) (by with_reducible assumption) (by k_asm) (by first | exact rfl | assumption) (by ktr_room) (by ktr_units) ?_)); intro _ _ _ _ _; (try dsimp only); (try k_sweep))) | (((with_reducible show wpAny _ _ (call (Value.type _) [_]) _ _ _); first | (refine call_type_of (typeIs_bytes _ _ _) (by decide) ?_) | (refine call_type_of (typeIs_str _ _ _) (by decide) ?_) | (refine call_type_of (typeIs_bool _ _) (by decide) ?_) | (refine call_type_of (typeIs_int _ _ _) (by decide) ?_))) | walk_at "1 step"))
  rename Fr _ _ _ _ => lF
  rename News _ _ _ _ => lN
  with_unfolding_all refine' turn9 w mean mg mb fa L cd h₀ _ Q E _ B X T hE oW oH oP tW th tt tr tP nf hfg hW here p hH hP D tl vs ck hat hD hh hp6 hs t1 t2 t3 Tt M De Da vm va' cm ce' ca' s1 s2 hTL hML hDL hDaL ?hn (fr_kst lF ?hk) lN
  case hn => exact fun h9 tk9 m9 oH9 oP9 th9 tt9 vP9 a b c d e => hnext h9 tk9 m9 oH9 oP9 th9 tt9 vP9 a b c d e
  case hk => kst_all








theorem turn4 (w : World) (mean : ExcName → Option Value) (mg mb : Str → Option Value) (fa L : Addr) (cd : Value) (h₀ : Heap) (s : Shared) (Q : Flow → Shared → Prop) (E : Value → Shared → Prop) (u : Str → Option Value)
    (B : Below callerA h₀ [] h₀) (X : (hd.heap_39 w.params).In h₀) (T : Top hd.view_39 loo mean mg mb h₀) (hE : PassesOwn (model PG w) (AL L fa cd) (envLaw L fa cd) E)
    (oW oH oP : Obj) (tW th tt tr tP : Tok) (nf : List Int) (hfg : Figs nf) (hW : oW.data = .cell (some (.str (S (nf.map sig)) tW))) (here : Int) (hH : oH.data = .cell (some (.int here th))) (hP : oP.data = .cell (some (.str (S (pieceL (nf.map sig) here.toNat false)) tP)))
    (D : Addr) (tl : CbLed) (vs : List Value) (ps : List (Int × Bool)) (ck : Nat) (hpa : PairsAre tl vs ps) (hat : AllTup tl) (hD : @LT.lt Nat _ (L + 1 + 1 + 1 + 1 + 1) D) (hlen : vs.length ≤ 5)
    (hh : 0 ≤ here ∧ here ≤ 6) (hps : ∀ q ∈ ps, 0 ≤ q.1 ∧ q.1 ≤ 6) (p : Int) (i : Nat) (hs : p = here + 1 ∨ p = here + 2) (hmin : ∀ f ∈ farsOf here ps, 4 * (p - here) ≤ f) (hidx : (farsOf here ps).idxOf (4 * (p - here)) = i) (hat_i : ps[i]? = some (p, false))
    (Df : Addr) (fv : List Value) (nfd : Nat) (hif : IntsAre fv (farsOf here ps)) (hDf : @Ne Nat D Df) (hDf4 : @Ne Nat Df (L + 1 + 1 + 1 + 1)) (hDf5 : @Ne Nat Df (L + 1 + 1 + 1 + 1 + 1))
    (hnext : ∀ (h' : Heap) (tk' : Nat) (m' : Str → Option Value) (oH' oP' : Obj) (th' tt' : Tok) (vP' : Option Value), oH'.data = .cell (some (.int p th')) → oP'.data = .cell vP' → Fr h₀ L h' m' →
      (∀ q ∈ [(Str.ofString "pile", Value.ref D), (Str.ofString "text", Value.str (S ((nf.map sig).take (p.toNat + 6))) tt'), (Str.ofString "row", Value.bytes (bA (rowOf nf)) tr)], m' q.1 = some q.2) →
      News h₀ L h' ((D, listOf (List.toArray (vs.eraseIdx i)) (ck + 1)) :: (L + 1 + 1 + 1, oW) :: (L + 1 + 1 + 1 + 1, oH') :: (L + 1 + 1 + 1 + 1 + 1, oP') :: tl) → Q .next { s with heap := h', toks := tk' })
    (F : Fr h₀ L s.heap (kstB u [(Str.ofString "pile", .ref D), (Str.ofString "text", .str (S ((nf.map sig).take (here.toNat + 6))) tt), (Str.ofString "row", .bytes (bA (rowOf nf)) tr), (Str.ofString "fars", .ref Df)]))
    (N : News h₀ L s.heap ((D, listOf (List.toArray vs) ck) :: (L + 1 + 1 + 1, oW) :: (L + 1 + 1 + 1 + 1, oH) :: (L + 1 + 1 + 1 + 1 + 1, oP) :: (Df, listOf (List.toArray fv) nfd) :: tl)) :
    wpAny (model PG w) (AL L fa cd) (execs ((whileBody lawW).drop 4) (envLaw L fa cd)) Q E s := by
  with_unfolding_all show wpAny _ _ (execs (_ :: _) _) _ _ _
  dsimp only [kstB] at F
  have hll : (nf.map sig).length = 12 := by rw [List.length_map, hfg.1]
  have hsl : (S (nf.map sig)).length = 12 := by rw [S_length, hll]
  have hp6 : 0 ≤ p ∧ p ≤ 6 := hps _ (List.mem_of_getElem? hat_i)
  have hT4 : ∀ q ∈ tl, q.1 ≠ L + 1 + 1 + 1 + 1 := tl_cell N (fun q hq => .tail _ (.tail _ (.tail _ (.tail _ (.tail _ hq))))) hat (by k_mem) hH
  have hT5 : ∀ q ∈ tl, q.1 ≠ L + 1 + 1 + 1 + 1 + 1 := tl_cell N (fun q hq => .tail _ (.tail _ (.tail _ (.tail _ (.tail _ hq))))) hat (by k_mem) hP
  have hTD : ∀ q ∈ tl, q.1 ≠ D := tl_list N (fun q hq => .tail _ (.tail _ (.tail _ (.tail _ (.tail _ hq))))) hat (by k_mem)
  have hq1 := piece_len hfg hh false
  have hq2 := piece_len hfg hp6 false
  have hpl := hpa.length
  have hmm := idx_facts hidx hat_i
  obtain ⟨a, ta, hva, hma⟩ := hpa.get i _ hat_i
  have hva' : vs[((i : Nat) : Int).toNat]? = some (.ref a) := by rw [Int.toNat_natCast]; exact hva
  have haD : @Ne Nat a D := hTD _ hma
  have ha4 : @Ne Nat a (L + 1 + 1 + 1 + 1) := hT4 _ hma
  have ha5 : @Ne Nat a (L + 1 + 1 + 1 + 1 + 1) := hT5 _ hma
  have hfz : (farsOf here ps).length ≤ 1000 := by unfold farsOf; rw [List.length_map]; omega
  replace N := news_front N (x := (a, tupO p ta false)) (.tail _ (.tail _ (.tail _ (.tail _ (.tail _ hma)))))
  repeat' ((fail_if_success (with_reducible show wpAny _ _ (PySem.execs [_, _, _, _, _, _, _, _, _] _) _ _ _)); (first | (((with_reducible show wpAny _ _ (call (Value.builtin "list.pop") [Value.ref _, Value.int _ _]) _ _ _); k_here; (with_reducible show wpAny _ _ (call (Value.builtin "list.pop") [Value.ref _, Value.int _ _]) _ _ _); k_dflt (refine' l_popAt (by k_asm) (by k_asm) (by k_upd) (by omega) (by with_reducible assumption) (by omega) ?_); intro _ _ N'; (try dsimp only [List.nil_append, List.cons_append] at N'); revert N'; intro _)) | (((with_reducible show wpAny _ _ (call (Value.builtin "list.index") [Value.ref _, Value.int _ _]) _ _ _); k_here; (with_reducible show wpAny _ _ (call (Value.builtin "list.index") [Value.ref _, Value.int _ _]) _ _ _); k_dflt (refine' g_index (by k_asm) (by k_mem) (by with_reducible assumption) (by assumption) (by assumption) (by assumption) ?_); intro _ _)) | (((with_reducible show wpAny _ _ (call (Value.builtin "min") [Value.ref _]) _ _ _); k_here; (with_reducible show wpAny _ _ (call (Value.builtin "min") [Value.ref _]) _ _ _); k_dflt (refine' g_min (by k_asm) (by k_asm) (by k_mem) (by with_reducible assumption) rfl (by assumption) (by assumption) ?_); intro _ _ _ _ _)) | (((with_reducible show wpAny _ _ (call (Value.type "list") [Value.str (S _) _]) _ _ _); k_here; (with_reducible show wpAny _ _ (call (Value.type "list") [Value.str (S _) _]) _ _ _); k_dflt (refine' g_list2 rfl rfl (by k_asm) (by k_asm) (by (try simp only [List.length_take, List.length_drop, List.length_append]); omega) ?_); intro _ _ _ _ _ _ _ l1 _; (try k_lt l1); revert l1; intro _; (try k_sweep))) | (((with_reducible show wpAny _ _ (call (Value.ref 35) [Value.str (S _) _, Value.str (S _) _, Value.int _ _]) _ _ _); k_here; (with_reducible show wpAny _ _ (call (Value.ref 35) [Value.str (S _) _, Value.str (S _) _, Value.int _ _]) _ _ _); k_dflt ((refine' c_lev _ _ _ _ _ _ _ _ _ _ _ (by first | omega | (simp only [List.length_append, List.length_cons, List.length_nil]; omega)) (by first | omega | (simp only [List.length_append, List.length_cons, List.length_nil]; omega)) (by omega) _ _ _ _ _ _ _ _ _ _ _ _ _ _ _ _ _ (by k_asm) (by k_asm) (by k_asm) (by with_reducible assumption) (by k_asm) (by first | exact rfl | assumption) (by ktr_room) (by ktr_units) ?_)); intro _ _ _ _ _; (try dsimp only); (try k_sweep))) | (((with_reducible show wpAny _ _ (call (Value.ref 142) [Value.int _ _, Value.int _ _, Value.bool _]) _ _ _); k_here; (with_reducible show wpAny _ _ (call (Value.ref 142) [Value.int _ _, Value.int _ _, Value.bool _]) _ _ _); k_dflt ((refine' c_far _ _ _ _ _ _ _ _ _ _ (by omega) (by omega) _ _ _ _ _ _ _ _ _ _ _ _ _ _ _ _ _ (by k_asm) (by k_asm) (by k_asm) (by with_reducible assumption) (by k_asm) (by first | exact rfl | assumption) (by ktr_room) (by ktr_units) ?_)); intro _ _ _ _ _; (try dsimp only); (try k_sweep))) | (((with_reducible show wpAny _ _ (call (Value.ref 149) [Value.str (S _) _, Value.int _ _, Value.bool _]) _ _ _); k_here; (with_reducible show wpAny _ _ (call (Value.ref 149) [Value.str (S _) _, Value.int _ _, Value.bool _]) _ _ _); k_dflt ((refine' c_piece _ _ _ _ _ _ _ _ _ _ (by assumption) (by omega) _ _ _ _ _ _ _ _ _ _ _ _ _ _ _ _ _ (by k_asm) (by k_asm) (by k_asm) (by with_reducible assumption) (by k_asm) (by first | exact rfl | assumption) (by ktr_room) (by ktr_units) ?_)); intro _ _ _ _ _; (try dsimp only); (try k_sweep))) | (((with_reducible show wpAny _ _ (call (Value.type _) [_]) _ _ _); first | (refine call_type_of (typeIs_bytes _ _ _) (by decide) ?_) | (refine call_type_of (typeIs_str _ _ _) (by decide) ?_) | (refine call_type_of (typeIs_bool _ _) (by decide) ?_) | (refine call_type_of (typeIs_int _ _ _) (by decide) ?_))) | walk_at "1 step"))
  rename Fr _ _ _ _ => lF
  rename News _ _ _ _ => lN
  rw [Int.toNat_natCast] at lN
  with_unfolding_all refine' turn7 w mean mg mb fa L cd h₀ _ Q E _ B X T hE oW oH oP tW th tt tr tP nf hfg hW here p hH hP D tl (vs.eraseIdx i) (ck + 1) hat hD hh hp6 hs _ _ _ ?hn (fr_kst lF ?hk) ?hm
  case hk => kst_all
  case hm => ((repeat (refine List.forall_mem_cons.mpr ⟨lN _ (by k_mem), ?_⟩)); exact fun q hq => lN q (by (repeat (refine List.Mem.tail _ ?_)); exact hq))
  case hn => exact fun h9 tk9 m9 oH9 oP9 th9 tt9 vP9 a b c d e => hnext h9 tk9 m9 oH9 oP9 th9 tt9 vP9 a b c d e







theorem turn1 (w : World) (mean : ExcName → Option Value) (mg mb : Str → Option Value) (fa L : Addr) (cd : Value) (h₀ : Heap) (s : Shared) (Q : Flow → Shared → Prop) (E : Value → Shared → Prop) (u : Str → Option Value)
    (B : Below callerA h₀ [] h₀) (X : (hd.heap_39 w.params).In h₀) (T : Top hd.view_39 loo mean mg mb h₀) (hE : PassesOwn (model PG w) (AL L fa cd) (envLaw L fa cd) E)
    (oW oH oP : Obj) (tW th tt tr tP : Tok) (nf : List Int) (hfg : Figs nf) (hW : oW.data = .cell (some (.str (S (nf.map sig)) tW))) (here : Int) (hH : oH.data = .cell (some (.int here th))) (hP : oP.data = .cell (some (.str (S (pieceL (nf.map sig) here.toNat false)) tP)))
    (D : Addr) (tl : CbLed) (vs : List Value) (ps : List (Int × Bool)) (ck : Nat) (hpa : PairsAre tl vs ps) (hat : AllTup tl) (hD : @LT.lt Nat _ (L + 1 + 1 + 1 + 1 + 1) D) (hlen : vs.length ≤ 5)
    (hh : 0 ≤ here ∧ here ≤ 6) (hps : ∀ q ∈ ps, 0 ≤ q.1 ∧ q.1 ≤ 6) (p : Int) (i : Nat) (hs : p = here + 1 ∨ p = here + 2) (hmin : ∀ f ∈ farsOf here ps, 4 * (p - here) ≤ f) (hidx : (farsOf here ps).idxOf (4 * (p - here)) = i) (hat_i : ps[i]? = some (p, false))
    (hnext : ∀ (h' : Heap) (tk' : Nat) (m' : Str → Option Value) (oH' oP' : Obj) (th' tt' : Tok) (vP' : Option Value), oH'.data = .cell (some (.int p th')) → oP'.data = .cell vP' → Fr h₀ L h' m' →
      (∀ q ∈ [(Str.ofString "pile", Value.ref D), (Str.ofString "text", Value.str (S ((nf.map sig).take (p.toNat + 6))) tt'), (Str.ofString "row", Value.bytes (bA (rowOf nf)) tr)], m' q.1 = some q.2) →
      News h₀ L h' ((D, listOf (List.toArray (vs.eraseIdx i)) (ck + 1)) :: (L + 1 + 1 + 1, oW) :: (L + 1 + 1 + 1 + 1, oH') :: (L + 1 + 1 + 1 + 1 + 1, oP') :: tl) → Q .next { s with heap := h', toks := tk' })
    (F : Fr h₀ L s.heap (kstB u [(Str.ofString "pile", .ref D), (Str.ofString "text", .str (S ((nf.map sig).take (here.toNat + 6))) tt), (Str.ofString "row", .bytes (bA (rowOf nf)) tr)]))
    (N : News h₀ L s.heap ((D, listOf (List.toArray vs) ck) :: (L + 1 + 1 + 1, oW) :: (L + 1 + 1 + 1 + 1, oH) :: (L + 1 + 1 + 1 + 1 + 1, oP) :: tl)) :
    wpAny (model PG w) (AL L fa cd) (execs ((whileBody lawW).drop 1) (envLaw L fa cd)) Q E s := by
  with_unfolding_all show wpAny _ _ (execs (_ :: _) _) _ _ _
  dsimp only [kstB] at F
  have hll : (nf.map sig).length = 12 := by rw [List.length_map, hfg.1]
  have hsl : (S (nf.map sig)).length = 12 := by rw [S_length, hll]
  have hp6 : 0 ≤ p ∧ p ≤ 6 := hps _ (List.mem_of_getElem? hat_i)
  have hT4 : ∀ q ∈ tl, q.1 ≠ L + 1 + 1 + 1 + 1 := tl_cell N (fun q hq => .tail _ (.tail _ (.tail _ (.tail _ hq)))) hat (by k_mem) hH
  have hT5 : ∀ q ∈ tl, q.1 ≠ L + 1 + 1 + 1 + 1 + 1 := tl_cell N (fun q hq => .tail _ (.tail _ (.tail _ (.tail _ hq)))) hat (by k_mem) hP
  have hTD : ∀ q ∈ tl, q.1 ≠ D := tl_list N (fun q hq => .tail _ (.tail _ (.tail _ (.tail _ hq)))) hat (by k_mem)
  have hq1 := piece_len hfg hh false
  have hq2 := piece_len hfg hp6 false
  have hpl := hpa.length
  walk_at "1 step"
  k_dflt (refine LCp.Assign_ListComp_P (F₀ := by k_asm) (by rfl) (by with_unfolding_all rfl) (by with_unfolding_all rfl) (by decide) (by rfl) (by decide) (by rfl) (by rfl) (by decide) (by rfl) (by rfl) ?_)
  walk_at "1 step"
  refine LCp.SrcLP.ledger rfl (by k_asm) (by k_asm) (by k_mem) (by rw [List.size_toArray, sizeLine_eq]; omega) ?_
  intro g'
  refine' pair_rest (fun q b => farI here q b) (fun q hq => .tail _ (.tail _ (.tail _ (.tail _ hq)))) hpa (fun q t b I oI C oC D' m ys h tk E' hm hC hx hx2 F9 N9 off ne => ?_) ?_
  · have hq6 : 0 ≤ q ∧ q ≤ 6 := hps _ hm
    have hq3 := piece_len hfg hq6 b
    have hlf := lev_far hfg hh hq6 b
    repeat' (first | (((with_reducible show wpAny _ _ (call (Value.builtin "list.pop") [Value.ref _, Value.int _ _]) _ _ _); k_here; (with_reducible show wpAny _ _ (call (Value.builtin "list.pop") [Value.ref _, Value.int _ _]) _ _ _); k_dflt (refine' l_popAt (by k_asm) (by k_asm) (by k_upd) (by omega) (by with_reducible assumption) (by omega) ?_); intro _ _ N'; (try dsimp only [List.nil_append, List.cons_append] at N'); revert N'; intro _)) | (((with_reducible show wpAny _ _ (call (Value.builtin "list.index") [Value.ref _, Value.int _ _]) _ _ _); k_here; (with_reducible show wpAny _ _ (call (Value.builtin "list.index") [Value.ref _, Value.int _ _]) _ _ _); k_dflt (refine' g_index (by k_asm) (by k_mem) (by with_reducible assumption) (by assumption) (by assumption) (by assumption) ?_); intro _ _)) | (((with_reducible show wpAny _ _ (call (Value.builtin "min") [Value.ref _]) _ _ _); k_here; (with_reducible show wpAny _ _ (call (Value.builtin "min") [Value.ref _]) _ _ _); k_dflt (refine' g_min (by k_asm) (by k_asm) (by k_mem) (by with_reducible assumption) rfl (by assumption) (by assumption) ?_); intro _ _ _ _ _)) | (((with_reducible show wpAny _ _ (call (Value.type "list") [Value.str (S _) _]) _ _ _); k_here; (with_reducible show wpAny _ _ (call (Value.type "list") [Value.str (S _) _]) _ _ _); k_dflt (refine' g_list2 rfl rfl (by k_asm) (by k_asm) (by (try simp only [List.length_take, List.length_drop, List.length_append]); omega) ?_); intro _ _ _ _ _ _ _ l1 _; (try k_lt l1); revert l1; intro _; (try k_sweep))) | (((with_reducible show wpAny _ _ (call (Value.ref 35) [Value.str (S _) _, Value.str (S _) _, Value.int _ _]) _ _ _); k_here; (with_reducible show wpAny _ _ (call (Value.ref 35) [Value.str (S _) _, Value.str (S _) _, Value.int _ _]) _ _ _); k_dflt ((refine' c_lev _ _ _ _ _ _ _ _ _ _ _ (by first | omega | (simp only [List.length_append, List.length_cons, List.length_nil]; omega)) (by first | omega | (simp only [List.length_append, List.length_cons, List.length_nil]; omega)) (by omega) _ _ _ _ _ _ _ _ _ _ _ _ _ _ _ _ _ (by k_asm) (by k_asm) (by k_asm) (by with_reducible assumption) (by k_asm) (by first | exact rfl | assumption) (by ktr_room) (by ktr_units) ?_)); intro _ _ _ _ _; (try dsimp only); (try k_sweep))) | (((with_reducible show wpAny _ _ (call (Value.ref 142) [Value.int _ _, Value.int _ _, Value.bool _]) _ _ _); k_here; (with_reducible show wpAny _ _ (call (Value.ref 142) [Value.int _ _, Value.int _ _, Value.bool _]) _ _ _); k_dflt ((refine' c_far _ _ _ _ _ _ _ _ _ _ (by omega) (by omega) _ _ _ _ _ _ _ _ _ _ _ _ _ _ _ _ _ (by k_asm) (by k_asm) (by k_asm) (by with_reducible assumption) (by k_asm) (by first | exact rfl | assumption) (by ktr_room) (by ktr_units) ?_)); intro _ _ _ _ _; (try dsimp only); (try k_sweep))) | (((with_reducible show wpAny _ _ (call (Value.ref 149) [Value.str (S _) _, Value.int _ _, Value.bool _]) _ _ _); k_here; (with_reducible show wpAny _ _ (call (Value.ref 149) [Value.str (S _) _, Value.int _ _, Value.bool _]) _ _ _); k_dflt ((refine' c_piece _ _ _ _ _ _ _ _ _ _ (by assumption) (by omega) _ _ _ _ _ _ _ _ _ _ _ _ _ _ _ _ _ (by k_asm) (by k_asm) (by k_asm) (by with_reducible assumption) (by k_asm) (by first | exact rfl | assumption) (by ktr_room) (by ktr_units) ?_)); intro _ _ _ _ _; (try dsimp only); (try k_sweep))) | (((with_reducible show wpAny _ _ (call (Value.type _) [_]) _ _ _); first | (refine call_type_of (typeIs_bytes _ _ _) (by decide) ?_) | (refine call_type_of (typeIs_str _ _ _) (by decide) ?_) | (refine call_type_of (typeIs_bool _ _) (by decide) ?_) | (refine call_type_of (typeIs_int _ _ _) (by decide) ?_))) | walk_at "1 step")
    refine LCg.CompEnd.intro (by k_asm) (by k_asm) _ (fun _ h => h) off (.inr ⟨_, .head _, rfl, _, rfl⟩) ⟨rfl, _, by rw [hlf]⟩
  · intro fv hiy
    unfold LCg.FinA
    intro D9 h9 tk9 F9 N9 o9
    dsimp only
    have hfl := hiy.length
    rw [List.length_map] at hfl
    repeat' ((fail_if_success (with_reducible show wpAny _ _ (PySem.eval (Expr.ListComp _ _ _ _) _) _ _ _)); (first | (((with_reducible show wpAny _ _ (call (Value.builtin "list.pop") [Value.ref _, Value.int _ _]) _ _ _); k_here; (with_reducible show wpAny _ _ (call (Value.builtin "list.pop") [Value.ref _, Value.int _ _]) _ _ _); k_dflt (refine' l_popAt (by k_asm) (by k_asm) (by k_upd) (by omega) (by with_reducible assumption) (by omega) ?_); intro _ _ N'; (try dsimp only [List.nil_append, List.cons_append] at N'); revert N'; intro _)) | (((with_reducible show wpAny _ _ (call (Value.builtin "list.index") [Value.ref _, Value.int _ _]) _ _ _); k_here; (with_reducible show wpAny _ _ (call (Value.builtin "list.index") [Value.ref _, Value.int _ _]) _ _ _); k_dflt (refine' g_index (by k_asm) (by k_mem) (by with_reducible assumption) (by assumption) (by assumption) (by assumption) ?_); intro _ _)) | (((with_reducible show wpAny _ _ (call (Value.builtin "min") [Value.ref _]) _ _ _); k_here; (with_reducible show wpAny _ _ (call (Value.builtin "min") [Value.ref _]) _ _ _); k_dflt (refine' g_min (by k_asm) (by k_asm) (by k_mem) (by with_reducible assumption) rfl (by assumption) (by assumption) ?_); intro _ _ _ _ _)) | (((with_reducible show wpAny _ _ (call (Value.type "list") [Value.str (S _) _]) _ _ _); k_here; (with_reducible show wpAny _ _ (call (Value.type "list") [Value.str (S _) _]) _ _ _); k_dflt (refine' g_list2 rfl rfl (by k_asm) (by k_asm) (by (try simp only [List.length_take, List.length_drop, List.length_append]); omega) ?_); intro _ _ _ _ _ _ _ l1 _; (try k_lt l1); revert l1; intro _; (try k_sweep))) | (((with_reducible show wpAny _ _ (call (Value.ref 35) [Value.str (S _) _, Value.str (S _) _, Value.int _ _]) _ _ _); k_here; (with_reducible show wpAny _ _ (call (Value.ref 35) [Value.str (S _) _, Value.str (S _) _, Value.int _ _]) _ _ _); k_dflt ((refine' c_lev _ _ _ _ _ _ _ _ _ _ _ (by first | omega | (simp only [List.length_append, List.length_cons, List.length_nil]; omega)) (by first | omega | (simp only [List.length_append, List.length_cons, List.length_nil]; omega)) (by omega) _ _ _ _ _ _ _ _ _ _ _ _ _ _ _ _ _ (by k_asm) (by k_asm) (by k_asm) (by with_reducible assumption) (by k_asm) (by first | exact rfl | assumption) (by ktr_room) (by ktr_units) ?_)); intro _ _ _ _ _; (try dsimp only); (try k_sweep))) | (((with_reducible show wpAny _ _ (call (Value.ref 142) [Value.int _ _, Value.int _ _, Value.bool _]) _ _ _); k_here; (with_reducible show wpAny _ _ (call (Value.ref 142) [Value.int _ _, Value.int _ _, Value.bool _]) _ _ _); k_dflt ((refine' c_far _ _ _ _ _ _ _ _ _ _ (by omega) (by omega) _ _ _ _ _ _ _ _ _ _ _ _ _ _ _ _ _ (by k_asm) (by k_asm) (by k_asm) (by with_reducible assumption) (by k_asm) (by first | exact rfl | assumption) (by ktr_room) (by ktr_units) ?_)); intro _ _ _ _ _; (try dsimp only); (try k_sweep))) | (((with_reducible show wpAny _ _ (call (Value.ref 149) [Value.str (S _) _, Value.int _ _, Value.bool _]) _ _ _); k_here; (with_reducible show wpAny _ _ (call (Value.ref 149) [Value.str (S _) _, Value.int _ _, Value.bool _]) _ _ _); k_dflt ((refine' c_piece _ _ _ _ _ _ _ _ _ _ (by assumption) (by omega) _ _ _ _ _ _ _ _ _ _ _ _ _ _ _ _ _ (by k_asm) (by k_asm) (by k_asm) (by with_reducible assumption) (by k_asm) (by first | exact rfl | assumption) (by ktr_room) (by ktr_units) ?_)); intro _ _ _ _ _; (try dsimp only); (try k_sweep))) | (((with_reducible show wpAny _ _ (call (Value.type _) [_]) _ _ _); first | (refine call_type_of (typeIs_bytes _ _ _) (by decide) ?_) | (refine call_type_of (typeIs_str _ _ _) (by decide) ?_) | (refine call_type_of (typeIs_bool _ _) (by decide) ?_) | (refine call_type_of (typeIs_int _ _ _) (by decide) ?_))) | walk_at "1 step"))
    k_dflt (refine LCp.ListComp_P (F₀ := by k_asm) (by with_unfolding_all rfl) (by decide) (by rfl) (by decide) (by rfl) (by rfl) (by decide) ?_)
    walk_at "1 step"
    refine LCp.SrcLP.ledger rfl (by k_asm) (by k_asm) (.tail _ (.head _)) (by rw [List.size_toArray, sizeLine_eq]; omega) ?_
    intro g2
    refine' pair_rest (fun q b => farI here q b) (fun q hq => .tail _ (.tail _ (.tail _ (.tail _ (.tail _ hq))))) hpa (fun q t b I oI C oC D' m ys h tk E' hm hC hx hx2 F9 N9 off ne => ?_) ?_
    · have hq6 : 0 ≤ q ∧ q ≤ 6 := hps _ hm
      repeat' (first | (((with_reducible show wpAny _ _ (call (Value.builtin "list.pop") [Value.ref _, Value.int _ _]) _ _ _); k_here; (with_reducible show wpAny _ _ (call (Value.builtin "list.pop") [Value.ref _, Value.int _ _]) _ _ _); k_dflt (refine' l_popAt (by k_asm) (by k_asm) (by k_upd) (by omega) (by with_reducible assumption) (by omega) ?_); intro _ _ N'; (try dsimp only [List.nil_append, List.cons_append] at N'); revert N'; intro _)) | (((with_reducible show wpAny _ _ (call (Value.builtin "list.index") [Value.ref _, Value.int _ _]) _ _ _); k_here; (with_reducible show wpAny _ _ (call (Value.builtin "list.index") [Value.ref _, Value.int _ _]) _ _ _); k_dflt (refine' g_index (by k_asm) (by k_mem) (by with_reducible assumption) (by assumption) (by assumption) (by assumption) ?_); intro _ _)) | (((with_reducible show wpAny _ _ (call (Value.builtin "min") [Value.ref _]) _ _ _); k_here; (with_reducible show wpAny _ _ (call (Value.builtin "min") [Value.ref _]) _ _ _); k_dflt (refine' g_min (by k_asm) (by k_asm) (by k_mem) (by with_reducible assumption) rfl (by assumption) (by assumption) ?_); intro _ _ _ _ _)) | (((with_reducible show wpAny _ _ (call (Value.type "list") [Value.str (S _) _]) _ _ _); k_here; (with_reducible show wpAny _ _ (call (Value.type "list") [Value.str (S _) _]) _ _ _); k_dflt (refine' g_list2 rfl rfl (by k_asm) (by k_asm) (by (try simp only [List.length_take, List.length_drop, List.length_append]); omega) ?_); intro _ _ _ _ _ _ _ l1 _; (try k_lt l1); revert l1; intro _; (try k_sweep))) | (((with_reducible show wpAny _ _ (call (Value.ref 35) [Value.str (S _) _, Value.str (S _) _, Value.int _ _]) _ _ _); k_here; (with_reducible show wpAny _ _ (call (Value.ref 35) [Value.str (S _) _, Value.str (S _) _, Value.int _ _]) _ _ _); k_dflt ((refine' c_lev _ _ _ _ _ _ _ _ _ _ _ (by first | omega | (simp only [List.length_append, List.length_cons, List.length_nil]; omega)) (by first | omega | (simp only [List.length_append, List.length_cons, List.length_nil]; omega)) (by omega) _ _ _ _ _ _ _ _ _ _ _ _ _ _ _ _ _ (by k_asm) (by k_asm) (by k_asm) (by with_reducible assumption) (by k_asm) (by first | exact rfl | assumption) (by ktr_room) (by ktr_units) ?_)); intro _ _ _ _ _; (try dsimp only); (try k_sweep))) | (((with_reducible show wpAny _ _ (call (Value.ref 142) [Value.int _ _, Value.int _ _, Value.bool _]) _ _ _); k_here; (with_reducible show wpAny _ _ (call (Value.ref 142) [Value.int _ _, Value.int _ _, Value.bool _]) _ _ _); k_dflt ((refine' c_far _ _ _ _ _ _ _ _ _ _ (by omega) (by omega) _ _ _ _ _ _ _ _ _ _ _ _ _ _ _ _ _ (by k_asm) (by k_asm) (by k_asm) (by with_reducible assumption) (by k_asm) (by first | exact rfl | assumption) (by ktr_room) (by ktr_units) ?_)); intro _ _ _ _ _; (try dsimp only); (try k_sweep))) | (((with_reducible show wpAny _ _ (call (Value.ref 149) [Value.str (S _) _, Value.int _ _, Value.bool _]) _ _ _); k_here; (with_reducible show wpAny _ _ (call (Value.ref 149) [Value.str (S _) _, Value.int _ _, Value.bool _]) _ _ _); k_dflt ((refine' c_piece _ _ _ _ _ _ _ _ _ _ (by assumption) (by omega) _ _ _ _ _ _ _ _ _ _ _ _ _ _ _ _ _ (by k_asm) (by k_asm) (by k_asm) (by with_reducible assumption) (by k_asm) (by first | exact rfl | assumption) (by ktr_room) (by ktr_units) ?_)); intro _ _ _ _ _; (try dsimp only); (try k_sweep))) | (((with_reducible show wpAny _ _ (call (Value.type _) [_]) _ _ _); first | (refine call_type_of (typeIs_bytes _ _ _) (by decide) ?_) | (refine call_type_of (typeIs_str _ _ _) (by decide) ?_) | (refine call_type_of (typeIs_bool _ _) (by decide) ?_) | (refine call_type_of (typeIs_int _ _ _) (by decide) ?_))) | walk_at "1 step")
      refine LCg.CompEnd.intro (by k_asm) (by k_asm) _ (fun _ h => h) off (.inr ⟨_, .tail _ (.head _), rfl, _, rfl⟩) ⟨rfl, _, rfl⟩
    · intro fw hiw
      unfold LCg.FinE
      intro D8 h8 tk8 F8 N8 o8
      dsimp only
      clear F9 N9
      have hwl := hiw.length
      rw [List.length_map] at hwl
      repeat' ((fail_if_success (with_reducible show wpAny _ _ (PySem.eval (Expr.ListComp _ _ _ _) _) _ _ _)); (first | (((with_reducible show wpAny _ _ (call (Value.builtin "list.pop") [Value.ref _, Value.int _ _]) _ _ _); k_here; (with_reducible show wpAny _ _ (call (Value.builtin "list.pop") [Value.ref _, Value.int _ _]) _ _ _); k_dflt (refine' l_popAt (by k_asm) (by k_asm) (by k_upd) (by omega) (by with_reducible assumption) (by omega) ?_); intro _ _ N'; (try dsimp only [List.nil_append, List.cons_append] at N'); revert N'; intro _)) | (((with_reducible show wpAny _ _ (call (Value.builtin "list.index") [Value.ref _, Value.int _ _]) _ _ _); k_here; (with_reducible show wpAny _ _ (call (Value.builtin "list.index") [Value.ref _, Value.int _ _]) _ _ _); k_dflt (refine' g_index (by k_asm) (by k_mem) (by with_reducible assumption) (by assumption) (by assumption) (by assumption) ?_); intro _ _)) | (((with_reducible show wpAny _ _ (call (Value.builtin "min") [Value.ref _]) _ _ _); k_here; (with_reducible show wpAny _ _ (call (Value.builtin "min") [Value.ref _]) _ _ _); k_dflt (refine' g_min (by k_asm) (by k_asm) (by k_mem) (by with_reducible assumption) rfl (by assumption) (by assumption) ?_); intro _ _ _ _ _)) | (((with_reducible show wpAny _ _ (call (Value.type "list") [Value.str (S _) _]) _ _ _); k_here; (with_reducible show wpAny _ _ (call (Value.type "list") [Value.str (S _) _]) _ _ _); k_dflt (refine' g_list2 rfl rfl (by k_asm) (by k_asm) (by (try simp only [List.length_take, List.length_drop, List.length_append]); omega) ?_); intro _ _ _ _ _ _ _ l1 _; (try k_lt l1); revert l1; intro _; (try k_sweep))) | (((with_reducible show wpAny _ _ (call (Value.ref 35) [Value.str (S _) _, Value.str (S _) _, Value.int _ _]) _ _ _); k_here; (with_reducible show wpAny _ _ (call (Value.ref 35) [Value.str (S _) _, Value.str (S _) _, Value.int _ _]) _ _ _); k_dflt ((refine' c_lev _ _ _ _ _ _ _ _ _ _ _ (by first | omega | (simp only [List.length_append, List.length_cons, List.length_nil]; omega)) (by first | omega | (simp only [List.length_append, List.length_cons, List.length_nil]; omega)) (by omega) _ _ _ _ _ _ _ _ _ _ _ _ _ _ _ _ _ (by k_asm) (by k_asm) (by k_asm) (by with_reducible assumption) (by k_asm) (by first | exact rfl | assumption) (by ktr_room) (by ktr_units) ?_)); intro _ _ _ _ _; (try dsimp only); (try k_sweep))) | (((with_reducible show wpAny _ _ (call (Value.ref 142) [Value.int _ _, Value.int _ _, Value.bool _]) _ _ _); k_here; (with_reducible show wpAny _ _ (call (Value.ref 142) [Value.int _ _, Value.int _ _, Value.bool _]) _ _ _); k_dflt ((refine' c_far _ _ _ _ _ _ _ _ _ _ (by omega) (by omega) _ _ _ _ _ _ _ _ _ _ _ _ _ _ _ _ _ (by k_asm) (by k_asm) (by k_asm) (by with_reducible assumption) (by k_asm) (by first | exact rfl | assumption) (by ktr_room) (by ktr_units) ?_)); intro _ _ _ _ _; (try dsimp only); (try k_sweep))) | (((with_reducible show wpAny _ _ (call (Value.ref 149) [Value.str (S _) _, Value.int _ _, Value.bool _]) _ _ _); k_here; (with_reducible show wpAny _ _ (call (Value.ref 149) [Value.str (S _) _, Value.int _ _, Value.bool _]) _ _ _); k_dflt ((refine' c_piece _ _ _ _ _ _ _ _ _ _ (by assumption) (by omega) _ _ _ _ _ _ _ _ _ _ _ _ _ _ _ _ _ (by k_asm) (by k_asm) (by k_asm) (by with_reducible assumption) (by k_asm) (by first | exact rfl | assumption) (by ktr_room) (by ktr_units) ?_)); intro _ _ _ _ _; (try dsimp only); (try k_sweep))) | (((with_reducible show wpAny _ _ (call (Value.type _) [_]) _ _ _); first | (refine call_type_of (typeIs_bytes _ _ _) (by decide) ?_) | (refine call_type_of (typeIs_str _ _ _) (by decide) ?_) | (refine call_type_of (typeIs_bool _ _) (by decide) ?_) | (refine call_type_of (typeIs_int _ _ _) (by decide) ?_))) | walk_at "1 step"))
      k_dflt (refine LCt.ListComp_T (F₀ := by k_asm) (by with_unfolding_all rfl) (by decide) (by rfl) (by decide) (by rfl) ?_)
      walk_at "1 step"
      refine LCt.CompSrcT.ledger rfl (by k_asm) (by k_asm) (.tail _ (.head _)) (by rw [List.size_toArray, sizeLine_eq]; omega) ?_
      intro g3
      refine' none_rest hiy (fun k t I oI C oC D' m h tk E' hm hC hx F9 N9 off ne => ?_) ?_
      · repeat' (first | (((with_reducible show wpAny _ _ (call (Value.builtin "list.pop") [Value.ref _, Value.int _ _]) _ _ _); k_here; (with_reducible show wpAny _ _ (call (Value.builtin "list.pop") [Value.ref _, Value.int _ _]) _ _ _); k_dflt (refine' l_popAt (by k_asm) (by k_asm) (by k_upd) (by omega) (by with_reducible assumption) (by omega) ?_); intro _ _ N'; (try dsimp only [List.nil_append, List.cons_append] at N'); revert N'; intro _)) | (((with_reducible show wpAny _ _ (call (Value.builtin "list.index") [Value.ref _, Value.int _ _]) _ _ _); k_here; (with_reducible show wpAny _ _ (call (Value.builtin "list.index") [Value.ref _, Value.int _ _]) _ _ _); k_dflt (refine' g_index (by k_asm) (by k_mem) (by with_reducible assumption) (by assumption) (by assumption) (by assumption) ?_); intro _ _)) | (((with_reducible show wpAny _ _ (call (Value.builtin "min") [Value.ref _]) _ _ _); k_here; (with_reducible show wpAny _ _ (call (Value.builtin "min") [Value.ref _]) _ _ _); k_dflt (refine' g_min (by k_asm) (by k_asm) (by k_mem) (by with_reducible assumption) rfl (by assumption) (by assumption) ?_); intro _ _ _ _ _)) | (((with_reducible show wpAny _ _ (call (Value.type "list") [Value.str (S _) _]) _ _ _); k_here; (with_reducible show wpAny _ _ (call (Value.type "list") [Value.str (S _) _]) _ _ _); k_dflt (refine' g_list2 rfl rfl (by k_asm) (by k_asm) (by (try simp only [List.length_take, List.length_drop, List.length_append]); omega) ?_); intro _ _ _ _ _ _ _ l1 _; (try k_lt l1); revert l1; intro _; (try k_sweep))) | (((with_reducible show wpAny _ _ (call (Value.ref 35) [Value.str (S _) _, Value.str (S _) _, Value.int _ _]) _ _ _); k_here; (with_reducible show wpAny _ _ (call (Value.ref 35) [Value.str (S _) _, Value.str (S _) _, Value.int _ _]) _ _ _); k_dflt ((refine' c_lev _ _ _ _ _ _ _ _ _ _ _ (by first | omega | (simp only [List.length_append, List.length_cons, List.length_nil]; omega)) (by first | omega | (simp only [List.length_append, List.length_cons, List.length_nil]; omega)) (by omega) _ _ _ _ _ _ _ _ _ _ _ _ _ _ _ _ _ (by k_asm) (by k_asm) (by k_asm) (by with_reducible assumption) (by k_asm) (by first | exact rfl | assumption) (by ktr_room) (by ktr_units) ?_)); intro _ _ _ _ _; (try dsimp only); (try k_sweep))) | (((with_reducible show wpAny _ _ (call (Value.ref 142) [Value.int _ _, Value.int _ _, Value.bool _]) _ _ _); k_here; (with_reducible show wpAny _ _ (call (Value.ref 142) [Value.int _ _, Value.int _ _, Value.bool _]) _ _ _); k_dflt ((refine' c_far _ _ _ _ _ _ _ _ _ _ (by omega) (by omega) _ _ _ _ _ _ _ _ _ _ _ _ _ _ _ _ _ (by k_asm) (by k_asm) (by k_asm) (by with_reducible assumption) (by k_asm) (by first | exact rfl | assumption) (by ktr_room) (by ktr_units) ?_)); intro _ _ _ _ _; (try dsimp only); (try k_sweep))) | (((with_reducible show wpAny _ _ (call (Value.ref 149) [Value.str (S _) _, Value.int _ _, Value.bool _]) _ _ _); k_here; (with_reducible show wpAny _ _ (call (Value.ref 149) [Value.str (S _) _, Value.int _ _, Value.bool _]) _ _ _); k_dflt ((refine' c_piece _ _ _ _ _ _ _ _ _ _ (by assumption) (by omega) _ _ _ _ _ _ _ _ _ _ _ _ _ _ _ _ _ (by k_asm) (by k_asm) (by k_asm) (by with_reducible assumption) (by k_asm) (by first | exact rfl | assumption) (by ktr_room) (by ktr_units) ?_)); intro _ _ _ _ _; (try dsimp only); (try k_sweep))) | (((with_reducible show wpAny _ _ (call (Value.type _) [_]) _ _ _); first | (refine call_type_of (typeIs_bytes _ _ _) (by decide) ?_) | (refine call_type_of (typeIs_str _ _ _) (by decide) ?_) | (refine call_type_of (typeIs_bool _ _) (by decide) ?_) | (refine call_type_of (typeIs_int _ _ _) (by decide) ?_))) | walk_at "1 step")
        exact LCg.CompEnd.intro (by k_asm) (by k_asm) _ (fun _ h => h) off (.inr ⟨_, .tail _ (.head _), rfl, _, rfl⟩) rfl
      · unfold LCg.FinE
        intro D7 h7 tk7 F7 N7 o7
        dsimp only
        clear F8 N8
        repeat' ((fail_if_success (with_reducible show wpAny _ _ (PySem.execs [_, _, _, _, _, _, _, _, _, _, _, _] _) _ _ _)); (first | (((with_reducible show wpAny _ _ (call (Value.builtin "list.pop") [Value.ref _, Value.int _ _]) _ _ _); k_here; (with_reducible show wpAny _ _ (call (Value.builtin "list.pop") [Value.ref _, Value.int _ _]) _ _ _); k_dflt (refine' l_popAt (by k_asm) (by k_asm) (by k_upd) (by omega) (by with_reducible assumption) (by omega) ?_); intro _ _ N'; (try dsimp only [List.nil_append, List.cons_append] at N'); revert N'; intro _)) | (((with_reducible show wpAny _ _ (call (Value.builtin "list.index") [Value.ref _, Value.int _ _]) _ _ _); k_here; (with_reducible show wpAny _ _ (call (Value.builtin "list.index") [Value.ref _, Value.int _ _]) _ _ _); k_dflt (refine' g_index (by k_asm) (by k_mem) (by with_reducible assumption) (by assumption) (by assumption) (by assumption) ?_); intro _ _)) | (((with_reducible show wpAny _ _ (call (Value.builtin "min") [Value.ref _]) _ _ _); k_here; (with_reducible show wpAny _ _ (call (Value.builtin "min") [Value.ref _]) _ _ _); k_dflt (refine' g_min (by k_asm) (by k_asm) (by k_mem) (by with_reducible assumption) rfl (by assumption) (by assumption) ?_); intro _ _ _ _ _)) | (((with_reducible show wpAny _ _ (call (Value.type "list") [Value.str (S _) _]) _ _ _); k_here; (with_reducible show wpAny _ _ (call (Value.type "list") [Value.str (S _) _]) _ _ _); k_dflt (refine' g_list2 rfl rfl (by k_asm) (by k_asm) (by (try simp only [List.length_take, List.length_drop, List.length_append]); omega) ?_); intro _ _ _ _ _ _ _ l1 _; (try k_lt l1); revert l1; intro _; (try k_sweep))) | (((with_reducible show wpAny _ _ (call (Value.ref 35) [Value.str (S _) _, Value.str (S _) _, Value.int _ _]) _ _ _); k_here; (with_reducible show wpAny _ _ (call (Value.ref 35) [Value.str (S _) _, Value.str (S _) _, Value.int _ _]) _ _ _); k_dflt ((refine' c_lev _ _ _ _ _ _ _ _ _ _ _ (by first | omega | (simp only [List.length_append, List.length_cons, List.length_nil]; omega)) (by first | omega | (simp only [List.length_append, List.length_cons, List.length_nil]; omega)) (by omega) _ _ _ _ _ _ _ _ _ _ _ _ _ _ _ _ _ (by k_asm) (by k_asm) (by k_asm) (by with_reducible assumption) (by k_asm) (by first | exact rfl | assumption) (by ktr_room) (by ktr_units) ?_)); intro _ _ _ _ _; (try dsimp only); (try k_sweep))) | (((with_reducible show wpAny _ _ (call (Value.ref 142) [Value.int _ _, Value.int _ _, Value.bool _]) _ _ _); k_here; (with_reducible show wpAny _ _ (call (Value.ref 142) [Value.int _ _, Value.int _ _, Value.bool _]) _ _ _); k_dflt ((refine' c_far _ _ _ _ _ _ _ _ _ _ (by omega) (by omega) _ _ _ _ _ _ _ _ _ _ _ _ _ _ _ _ _ (by k_asm) (by k_asm) (by k_asm) (by with_reducible assumption) (by k_asm) (by first | exact rfl | assumption) (by ktr_room) (by ktr_units) ?_)); intro _ _ _ _ _; (try dsimp only); (try k_sweep))) | (((with_reducible show wpAny _ _ (call (Value.ref 149) [Value.str (S _) _, Value.int _ _, Value.bool _]) _ _ _); k_here; (with_reducible show wpAny _ _ (call (Value.ref 149) [Value.str (S _) _, Value.int _ _, Value.bool _]) _ _ _); k_dflt ((refine' c_piece _ _ _ _ _ _ _ _ _ _ (by assumption) (by omega) _ _ _ _ _ _ _ _ _ _ _ _ _ _ _ _ _ (by k_asm) (by k_asm) (by k_asm) (by with_reducible assumption) (by k_asm) (by first | exact rfl | assumption) (by ktr_room) (by ktr_units) ?_)); intro _ _ _ _ _; (try dsimp only); (try k_sweep))) | (((with_reducible show wpAny _ _ (call (Value.type _) [_]) _ _ _); first | (refine call_type_of (typeIs_bytes _ _ _) (by decide) ?_) | (refine call_type_of (typeIs_str _ _ _) (by decide) ?_) | (refine call_type_of (typeIs_bool _ _) (by decide) ?_) | (refine call_type_of (typeIs_int _ _ _) (by decide) ?_))) | walk_at "1 step"))
        rename Fr _ _ _ _ => lF
        rename News _ _ _ _ => lN
        with_unfolding_all refine' turn4 w mean mg mb fa L cd h₀ _ Q E _ B X T hE oW oH oP tW th tt tr tP nf hfg hW here hH hP D tl vs ps ck hpa hat hD hlen hh hps p i hs hmin hidx hat_i D9 fv fv.length hiy o9.1 (Ne.symm o9.2.2.1) (Ne.symm o9.2.2.2.1) ?hn (fr_kst lF ?hk) ?hm
        case hk => kst_all
        case hm => ((repeat (refine List.forall_mem_cons.mpr ⟨lN _ (by k_mem), ?_⟩)); exact fun q hq => lN q (by (repeat (refine List.Mem.tail _ ?_)); exact hq))
        case hn => exact fun h9 tk9 m9 oH9 oP9 th9 tt9 vP9 a b c d e => hnext h9 tk9 m9 oH9 oP9 th9 tt9 vP9 a b c d e



theorem turn0 (w : World) (mean : ExcName → Option Value) (mg mb : Str → Option Value) (fa L : Addr) (cd : Value) (h₀ : Heap) (s : Shared) (Q : Flow → Shared → Prop) (E : Value → Shared → Prop) (u : Str → Option Value)
    (B : Below callerA h₀ [] h₀) (X : (hd.heap_39 w.params).In h₀) (T : Top hd.view_39 loo mean mg mb h₀) (hE : PassesOwn (model PG w) (AL L fa cd) (envLaw L fa cd) E)
    (oW oH oP : Obj) (vP : Option Value) (tW th tt tr : Tok) (nf : List Int) (hfg : Figs nf) (hW : oW.data = .cell (some (.str (S (nf.map sig)) tW))) (here : Int) (hH : oH.data = .cell (some (.int here th))) (hP : oP.data = .cell vP)
    (D : Addr) (tl : CbLed) (vs : List Value) (ps : List (Int × Bool)) (ck : Nat) (hpa : PairsAre tl vs ps) (hat : AllTup tl) (hD : @LT.lt Nat _ (L + 1 + 1 + 1 + 1 + 1) D) (hlen : vs.length ≤ 5)
    (hh : 0 ≤ here ∧ here ≤ 6) (hps : ∀ q ∈ ps, 0 ≤ q.1 ∧ q.1 ≤ 6) (p : Int) (i : Nat) (hs : p = here + 1 ∨ p = here + 2) (hmin : ∀ f ∈ farsOf here ps, 4 * (p - here) ≤ f) (hidx : (farsOf here ps).idxOf (4 * (p - here)) = i) (hat_i : ps[i]? = some (p, false))
    (hnext : ∀ (h' : Heap) (tk' : Nat) (m' : Str → Option Value) (oH' oP' : Obj) (th' tt' : Tok) (vP' : Option Value), oH'.data = .cell (some (.int p th')) → oP'.data = .cell vP' → Fr h₀ L h' m' →
      (∀ q ∈ [(Str.ofString "pile", Value.ref D), (Str.ofString "text", Value.str (S ((nf.map sig).take (p.toNat + 6))) tt'), (Str.ofString "row", Value.bytes (bA (rowOf nf)) tr)], m' q.1 = some q.2) →
      News h₀ L h' ((D, listOf (List.toArray (vs.eraseIdx i)) (ck + 1)) :: (L + 1 + 1 + 1, oW) :: (L + 1 + 1 + 1 + 1, oH') :: (L + 1 + 1 + 1 + 1 + 1, oP') :: tl) → Q .next { s with heap := h', toks := tk' })
    (F : Fr h₀ L s.heap (kstB u [(Str.ofString "pile", .ref D), (Str.ofString "text", .str (S ((nf.map sig).take (here.toNat + 6))) tt), (Str.ofString "row", .bytes (bA (rowOf nf)) tr)]))
    (N : News h₀ L s.heap ((D, listOf (List.toArray vs) ck) :: (L + 1 + 1 + 1, oW) :: (L + 1 + 1 + 1 + 1, oH) :: (L + 1 + 1 + 1 + 1 + 1, oP) :: tl)) :
    wpAny (model PG w) (AL L fa cd) (execs (whileBody lawW) (envLaw L fa cd)) Q E s := by
  with_unfolding_all show wpAny _ _ (execs (_ :: _) _) _ _ _
  dsimp only [kstB] at F
  have hll : (nf.map sig).length = 12 := by rw [List.length_map, hfg.1]
  have hsl : (S (nf.map sig)).length = 12 := by rw [S_length, hll]
  have hp6 : 0 ≤ p ∧ p ≤ 6 := hps _ (List.mem_of_getElem? hat_i)
  have hT4 : ∀ q ∈ tl, q.1 ≠ L + 1 + 1 + 1 + 1 := tl_cell N (fun q hq => .tail _ (.tail _ (.tail _ (.tail _ hq)))) hat (by k_mem) hH
  have hT5 : ∀ q ∈ tl, q.1 ≠ L + 1 + 1 + 1 + 1 + 1 := tl_cell N (fun q hq => .tail _ (.tail _ (.tail _ (.tail _ hq)))) hat (by k_mem) hP
  have hTD : ∀ q ∈ tl, q.1 ≠ D := tl_list N (fun q hq => .tail _ (.tail _ (.tail _ (.tail _ hq)))) hat (by k_mem)
  repeat' ((fail_if_success (with_reducible show wpAny _ _ (PySem.execs [_, _, _, _, _, _, _, _, _, _, _, _, _, _, _] _) _ _ _)); (first | (((with_reducible show wpAny _ _ (call (Value.builtin "list.pop") [Value.ref _, Value.int _ _]) _ _ _); k_here; (with_reducible show wpAny _ _ (call (Value.builtin "list.pop") [Value.ref _, Value.int _ _]) _ _ _); k_dflt (refine' l_popAt (by k_asm) (by k_asm) (by k_upd) (by omega) (by with_reducible assumption) (by omega) ?_); intro _ _ N'; (try dsimp only [List.nil_append, List.cons_append] at N'); revert N'; intro _)) | (((with_reducible show wpAny _ _ (call (Value.builtin "list.index") [Value.ref _, Value.int _ _]) _ _ _); k_here; (with_reducible show wpAny _ _ (call (Value.builtin "list.index") [Value.ref _, Value.int _ _]) _ _ _); k_dflt (refine' g_index (by k_asm) (by k_mem) (by with_reducible assumption) (by assumption) (by assumption) (by assumption) ?_); intro _ _)) | (((with_reducible show wpAny _ _ (call (Value.builtin "min") [Value.ref _]) _ _ _); k_here; (with_reducible show wpAny _ _ (call (Value.builtin "min") [Value.ref _]) _ _ _); k_dflt (refine' g_min (by k_asm) (by k_asm) (by k_mem) (by with_reducible assumption) rfl (by assumption) (by assumption) ?_); intro _ _ _ _ _)) | (((with_reducible show wpAny _ _ (call (Value.type "list") [Value.str (S _) _]) _ _ _); k_here; (with_reducible show wpAny _ _ (call (Value.type "list") [Value.str (S _) _]) _ _ _); k_dflt (refine' g_list2 rfl rfl (by k_asm) (by k_asm) (by (try simp only [List.length_take, List.length_drop, List.length_append]); omega) ?_); intro _ _ _ _ _ _ _ l1 _; (try k_lt l1); revert l1; intro _; (try k_sweep))) | (((with_reducible show wpAny _ _ (call (Value.ref 35) [Value.str (S _) _, Value.str (S _) _, Value.int _ _]) _ _ _); k_here; (with_reducible show wpAny _ _ (call (Value.ref 35) [Value.str (S _) _, Value.str (S _) _, Value.int _ _]) _ _ _); k_dflt ((refine' c_lev _ _ _ _ _ _ _ _ _ _ _ (by first | omega | (simp only [List.length_append, List.length_cons, List.length_nil]; omega)) (by first | omega | (simp only [List.length_append, List.length_cons, List.length_nil]; omega)) (by omega) _ _ _ _ _ _ _ _ _ _ _ _ _ _ _ _ _ (by k_asm) (by k_asm) (by k_asm) (by with_reducible assumption) (by k_asm) (by first | exact rfl | assumption) (by ktr_room) (by ktr_units) ?_)); intro _ _ _ _ _; (try dsimp only); (try k_sweep))) | (((with_reducible show wpAny _ _ (call (Value.ref 142) [Value.int _ _, Value.int _ _, Value.bool _]) _ _ _); k_here; (with_reducible show wpAny _ _ (call (Value.ref 142) [Value.int _ _, Value.int _ _, Value.bool _]) _ _ _); k_dflt ((refine' c_far _ _ _ _ _ _ _ _ _ _ (by omega) (by omega) _ _ _ _ _ _ _ _ _ _ _ _ _ _ _ _ _ (by k_asm) (by k_asm) (by k_asm) (by with_reducible assumption) (by k_asm) (by first | exact rfl | assumption) (by ktr_room) (by ktr_units) ?_)); intro _ _ _ _ _; (try dsimp only); (try k_sweep))) | (((with_reducible show wpAny _ _ (call (Value.ref 149) [Value.str (S _) _, Value.int _ _, Value.bool _]) _ _ _); k_here; (with_reducible show wpAny _ _ (call (Value.ref 149) [Value.str (S _) _, Value.int _ _, Value.bool _]) _ _ _); k_dflt ((refine' c_piece _ _ _ _ _ _ _ _ _ _ (by assumption) (by omega) _ _ _ _ _ _ _ _ _ _ _ _ _ _ _ _ _ (by k_asm) (by k_asm) (by k_asm) (by with_reducible assumption) (by k_asm) (by first | exact rfl | assumption) (by ktr_room) (by ktr_units) ?_)); intro _ _ _ _ _; (try dsimp only); (try k_sweep))) | (((with_reducible show wpAny _ _ (call (Value.type _) [_]) _ _ _); first | (refine call_type_of (typeIs_bytes _ _ _) (by decide) ?_) | (refine call_type_of (typeIs_str _ _ _) (by decide) ?_) | (refine call_type_of (typeIs_bool _ _) (by decide) ?_) | (refine call_type_of (typeIs_int _ _ _) (by decide) ?_))) | walk_at "1 step"))
  rename Fr _ _ _ _ => lF
  rename News _ _ _ _ => lN
  have e6 : Txt.slice (S (nf.map sig)) (some here) (some (here + 6)) = S (pieceL (nf.map sig) here.toNat false) := by
    rw [sl_ss (by omega) (by omega) (by rw [hll]; omega)]
    simp only [pieceL, Bool.false_eq_true, if_false]
    congr 2; omega
  rename Obj.data _ = Data.cell (some (Value.str (Txt.slice _ _ _) _)) => hP9
  rw [e6] at hP9
  with_unfolding_all refine' turn1 w mean mg mb fa L cd h₀ _ Q E _ B X T hE oW oH _ tW th tt tr _ nf hfg hW here hH hP9 D tl vs ps ck hpa hat hD hlen hh hps p i hs hmin hidx hat_i ?hn (fr_kst lF ?hk) ?hm
  case hk => kst_all
  case hm => ((repeat (refine List.forall_mem_cons.mpr ⟨lN _ (by k_mem), ?_⟩)); exact fun q hq => lN q (by (repeat (refine List.Mem.tail _ ?_)); exact hq))
  case hn => exact fun h9 tk9 m9 oH9 oP9 th9 tt9 vP9 a b c d e => hnext h9 tk9 m9 oH9 oP9 th9 tt9 vP9 a b c d e
end
section




theorem seg14 (w : World) (mean : ExcName → Option Value) (mg mb : Str → Option Value) (fa L : Addr) (cd : Value) (h₀ : Heap) (s : Shared) (Q : Flow → Shared → Prop) (E : Value → Shared → Prop) (u : Str → Option Value)
    (B : Below callerA h₀ [] h₀) (X : (hd.heap_39 w.params).In h₀) (T : Top hd.view_39 loo mean mg mb h₀) (hE : PassesOwn (model PG w) (AL L fa cd) (envLaw L fa cd) E)
    (hret : ∀ h' tk' m', Fr h₀ L h' m' → Q (.ret (.bool true)) { s with heap := h', toks := tk' })(oW oH oP : Obj) (vP : Option Value) (tW tH tT tr : Tok) (nf : List Int) (hfg : Figs nf) (hW : oW.data = .cell (some (.str (S (nf.map sig)) tW))) (hH : oH.data = .cell (some (.int 0 tH))) (hP : oP.data = .cell vP)
    (D : Addr) (tl : CbLed) (vs : List Value) (ps : List (Int × Bool)) (n npd : Nat) (hn : n ≤ 4) (hpa : PairsAre tl vs ps) (hat : AllTup tl) (hg : goodB n 0 ps = true) (hD : @LT.lt Nat _ (L + 1 + 1 + 1 + 1 + 1) D)
    (F : Fr h₀ L s.heap (kstB u [(Str.ofString "pile", .ref D), (Str.ofString "text", .str (S ((nf.map sig).take 6)) tT), (Str.ofString "row", .bytes (bA (rowOf nf)) tr)]))
    (N : News h₀ L s.heap ((D, listOf (List.toArray vs) npd) :: (L + 1 + 1 + 1, oW) :: (L + 1 + 1 + 1 + 1, oH) :: (L + 1 + 1 + 1 + 1 + 1, oP) :: tl)) :
    wpAny (model PG w) (AL L fa cd) (execs ((bodyAt 29).drop 14) (envLaw L fa cd)) Q E s := by
  with_unfolding_all show wpAny _ _ (execs (_ :: _) _) _ _ _
  dsimp only [kstB] at F
  have hll : (nf.map sig).length = 12 := by rw [List.length_map, hfg.1]
  have hsl : (S (nf.map sig)).length = 12 := by rw [S_length, hll]
  repeat' ((fail_if_success (with_reducible show wpAny _ _ (PySem.exec (Stmt.While _ _ _ _) _) _ _ _)); (first | (((with_reducible show wpAny _ _ (call (Value.ref 116) [Value.str _ _]) _ _ _); k_here; (with_reducible show wpAny _ _ (call (Value.ref 116) [Value.str _ _]) _ _ _); k_dflt ((refine' c_back _ _ _ _ _ _ _ (by assumption) _ _ _ _ _ _ _ _ _ _ _ _ _ _ _ _ _ (by k_asm) (by k_asm) (by k_asm) (by with_reducible assumption) (by k_asm) (by first | exact rfl | assumption) (by ktr_room) (by ktr_units) ?_)); intro _ _ _ _ _; (try dsimp only); (try k_sweep))) | (((with_reducible show wpAny _ _ (call (Value.builtin "len") [Value.ref _]) _ _ _); k_here; (with_reducible show wpAny _ _ (call (Value.builtin "len") [Value.ref _]) _ _ _); (with_reducible (fail_if_success (fail_if_success (rename PairsAre _ _ _ => hpp)))); k_dflt (refine' g_len (by with_reducible assumption) (by k_asm) (by k_mem) (by first | rfl | (simp only [List.length_append, List.length_drop, List.length_take]; omega)) (by omega) ?_); intro _ _)) | (((with_reducible show wpAny _ _ (binaryOp _ (Value.ref _) (Value.ref _)) _ _ _); k_here; (with_reducible show wpAny _ _ (binaryOp _ (Value.ref _) (Value.ref _)) _ _ _); (with_reducible (fail_if_success (fail_if_success (rename PairsAre _ _ _ => hpp)))); k_dflt (refine' g_add (by k_asm) (by k_asm) (by k_mem) (by k_mem) (by (simp only [List.length_drop, List.length_take]; omega)) ?_); intro _ _ _ _ l1; (try k_lt l1); revert l1; intro _; (try k_sweep))) | (((with_reducible show wpAny _ _ (subscriptTail _ (PySem.Expr.Slice none none (some _) _) (Value.ref _) (Value.ref _)) _ _ _); k_here; (with_reducible show wpAny _ _ (subscriptTail _ (PySem.Expr.Slice none none (some _) _) (Value.ref _) (Value.ref _)) _ _ _); (with_reducible (fail_if_success (fail_if_success (rename PairsAre _ _ _ => hpp)))); k_dflt (refine' krv_lit (by k_asm) (by k_asm) (by kmk_list) (by exact IsPart.int _ _) (by exact rfl) ?_ (by with_unfolding_all rfl) (by kmk_pure) (by (rw [List.size_toArray, sizeLine_eq]; simp only [List.length_append, List.length_drop, List.length_take]; omega))); intro _ _ _ _ l1; (try k_lt l1); revert l1; intro _; (try k_sweep))) | (((with_reducible show wpAny _ _ (subscriptTail _ (PySem.Expr.Slice none (some _) none _) (Value.ref _) (Value.ref _)) _ _ _); k_here; (with_reducible show wpAny _ _ (subscriptTail _ (PySem.Expr.Slice none (some _) none _) (Value.ref _) (Value.ref _)) _ _ _); (with_reducible (fail_if_success (fail_if_success (rename PairsAre _ _ _ => hpp)))); k_dflt (refine' kmk_slice_lit (by k_asm) (by k_asm) (by kmk_list) (by kmk_part) (by kmk_part) (g_upto (by omega)) ?_ (by with_unfolding_all rfl) (by kmk_pure) (by (rw [List.size_toArray, sizeLine_eq]; omega))); intro _ _ _ _ l1; (try k_lt l1); revert l1; intro _; (try k_sweep))) | (((with_reducible show wpAny _ _ (subscriptTail _ (PySem.Expr.Slice (some _) none none _) (Value.ref _) (Value.ref _)) _ _ _); k_here; (with_reducible show wpAny _ _ (subscriptTail _ (PySem.Expr.Slice (some _) none none _) (Value.ref _) (Value.ref _)) _ _ _); (with_reducible (fail_if_success (fail_if_success (rename PairsAre _ _ _ => hpp)))); k_dflt (refine' kmk_slice_lit (by k_asm) (by k_asm) (by kmk_list) (by kmk_part) (by kmk_part) (g_from (by omega)) ?_ (by with_unfolding_all rfl) (by kmk_pure) (by (rw [List.size_toArray, sizeLine_eq]; omega))); intro _ _ _ _ l1; (try k_lt l1); revert l1; intro _; (try k_sweep))) | (((with_reducible show wpAny _ _ (call (Value.type _) [_]) _ _ _); first | (refine call_type_of (typeIs_bytes _ _ _) (by decide) ?_) | (refine call_type_of (typeIs_str _ _ _) (by decide) ?_) | (refine call_type_of (typeIs_bool _ _) (by decide) ?_) | (refine call_type_of (typeIs_int _ _ _) (by decide) ?_))) | walk_at "1 step"))
  rename Fr _ _ _ _ => lF
  rename News _ _ _ _ => lN
  refine' wh (σ := SW) (fun c => (D, listOf (List.toArray c.vs) c.ck) :: (L + 1 + 1 + 1, oW) :: (L + 1 + 1 + 1 + 1, c.oH) :: (L + 1 + 1 + 1 + 1 + 1, c.oP) :: tl) (fun c => [(Str.ofString "pile", .ref D), (Str.ofString "text", .str (S ((nf.map sig).take (c.here.toNat + 6))) c.tt), (Str.ofString "row", .bytes (bA (rowOf nf)) tr)])
    (PW tl) (fun c => c.vs.length) (fun c => decide (1 < c.vs.length)) ⟨n, 0, tH, vs, ps, npd, oH, oP, vP, tT⟩ lF lN ?hk ?hp ?ht ?hb ?hd
  case hk => kst_all
  case hp => exact ⟨hg, hpa, hH, hP, hn⟩
  case hd =>
    clear lF lN
    rintro ⟨n', here, th, vs', ps', ck, oH', oP', vP', tt⟩ u' h' tk' hT ⟨g1, g2, g3, g4, g5⟩ F' N'
    dsimp only [kstB] at F' N' hT g1 g2 g3 g4 g5
    have hl1 := good_len g1
    have hl2 := g2.length
    have hn0 : n' = 0 := by
      rw [decide_eq_false_iff_not] at hT
      omega
    subst hn0
    obtain ⟨_, rfl⟩ := good_zero g1
    have e12 : (nf.map sig).take (Int.toNat 6 + 6) = nf.map sig := List.take_of_length_le (by rw [hll]; decide)
    rw [e12] at F'
    repeat' (first | (((with_reducible show wpAny _ _ (call (Value.ref 116) [Value.str _ _]) _ _ _); k_here; (with_reducible show wpAny _ _ (call (Value.ref 116) [Value.str _ _]) _ _ _); k_dflt ((refine' c_back _ _ _ _ _ _ _ (by assumption) _ _ _ _ _ _ _ _ _ _ _ _ _ _ _ _ _ (by k_asm) (by k_asm) (by k_asm) (by with_reducible assumption) (by k_asm) (by first | exact rfl | assumption) (by ktr_room) (by ktr_units) ?_)); intro _ _ _ _ _; (try dsimp only); (try k_sweep))) | (((with_reducible show wpAny _ _ (call (Value.builtin "len") [Value.ref _]) _ _ _); k_here; (with_reducible show wpAny _ _ (call (Value.builtin "len") [Value.ref _]) _ _ _); (with_reducible (fail_if_success (fail_if_success (rename PairsAre _ _ _ => hpp)))); k_dflt (refine' g_len (by with_reducible assumption) (by k_asm) (by k_mem) (by first | rfl | (simp only [List.length_append, List.length_drop, List.length_take]; omega)) (by omega) ?_); intro _ _)) | (((with_reducible show wpAny _ _ (binaryOp _ (Value.ref _) (Value.ref _)) _ _ _); k_here; (with_reducible show wpAny _ _ (binaryOp _ (Value.ref _) (Value.ref _)) _ _ _); (with_reducible (fail_if_success (fail_if_success (rename PairsAre _ _ _ => hpp)))); k_dflt (refine' g_add (by k_asm) (by k_asm) (by k_mem) (by k_mem) (by (simp only [List.length_drop, List.length_take]; omega)) ?_); intro _ _ _ _ l1; (try k_lt l1); revert l1; intro _; (try k_sweep))) | (((with_reducible show wpAny _ _ (subscriptTail _ (PySem.Expr.Slice none none (some _) _) (Value.ref _) (Value.ref _)) _ _ _); k_here; (with_reducible show wpAny _ _ (subscriptTail _ (PySem.Expr.Slice none none (some _) _) (Value.ref _) (Value.ref _)) _ _ _); (with_reducible (fail_if_success (fail_if_success (rename PairsAre _ _ _ => hpp)))); k_dflt (refine' krv_lit (by k_asm) (by k_asm) (by kmk_list) (by exact IsPart.int _ _) (by exact rfl) ?_ (by with_unfolding_all rfl) (by kmk_pure) (by (rw [List.size_toArray, sizeLine_eq]; simp only [List.length_append, List.length_drop, List.length_take]; omega))); intro _ _ _ _ l1; (try k_lt l1); revert l1; intro _; (try k_sweep))) | (((with_reducible show wpAny _ _ (subscriptTail _ (PySem.Expr.Slice none (some _) none _) (Value.ref _) (Value.ref _)) _ _ _); k_here; (with_reducible show wpAny _ _ (subscriptTail _ (PySem.Expr.Slice none (some _) none _) (Value.ref _) (Value.ref _)) _ _ _); (with_reducible (fail_if_success (fail_if_success (rename PairsAre _ _ _ => hpp)))); k_dflt (refine' kmk_slice_lit (by k_asm) (by k_asm) (by kmk_list) (by kmk_part) (by kmk_part) (g_upto (by omega)) ?_ (by with_unfolding_all rfl) (by kmk_pure) (by (rw [List.size_toArray, sizeLine_eq]; omega))); intro _ _ _ _ l1; (try k_lt l1); revert l1; intro _; (try k_sweep))) | (((with_reducible show wpAny _ _ (subscriptTail _ (PySem.Expr.Slice (some _) none none _) (Value.ref _) (Value.ref _)) _ _ _); k_here; (with_reducible show wpAny _ _ (subscriptTail _ (PySem.Expr.Slice (some _) none none _) (Value.ref _) (Value.ref _)) _ _ _); (with_reducible (fail_if_success (fail_if_success (rename PairsAre _ _ _ => hpp)))); k_dflt (refine' kmk_slice_lit (by k_asm) (by k_asm) (by kmk_list) (by kmk_part) (by kmk_part) (g_from (by omega)) ?_ (by with_unfolding_all rfl) (by kmk_pure) (by (rw [List.size_toArray, sizeLine_eq]; omega))); intro _ _ _ _ l1; (try k_lt l1); revert l1; intro _; (try k_sweep))) | (((with_reducible show wpAny _ _ (call (Value.type _) [_]) _ _ _); first | (refine call_type_of (typeIs_bytes _ _ _) (by decide) ?_) | (refine call_type_of (typeIs_str _ _ _) (by decide) ?_) | (refine call_type_of (typeIs_bool _ _) (by decide) ?_) | (refine call_type_of (typeIs_int _ _ _) (by decide) ?_))) | walk_at "1 step")
    rename Fr _ _ _ _ => lF
    rw [beq_self_eq_true]
    exact hret _ _ _ lF
  case ht =>
    clear lF lN
    rintro ⟨n', here, th, vs', ps', ck, oH', oP', vP', tt⟩ u' h' tk' ⟨g1, g2, g3, g4, g5⟩ F' N'
    dsimp only [kstB] at F' N' g1 g2 g3 g4 g5 ⊢
    have hl1 := good_len g1
    have hl2 := g2.length
    have hl3 : vs'.length ≤ 5 := by omega
    repeat' (first | (((with_reducible show wpAny _ _ (call (Value.ref 116) [Value.str _ _]) _ _ _); k_here; (with_reducible show wpAny _ _ (call (Value.ref 116) [Value.str _ _]) _ _ _); k_dflt ((refine' c_back _ _ _ _ _ _ _ (by assumption) _ _ _ _ _ _ _ _ _ _ _ _ _ _ _ _ _ (by k_asm) (by k_asm) (by k_asm) (by with_reducible assumption) (by k_asm) (by first | exact rfl | assumption) (by ktr_room) (by ktr_units) ?_)); intro _ _ _ _ _; (try dsimp only); (try k_sweep))) | (((with_reducible show wpAny _ _ (call (Value.builtin "len") [Value.ref _]) _ _ _); k_here; (with_reducible show wpAny _ _ (call (Value.builtin "len") [Value.ref _]) _ _ _); (with_reducible (fail_if_success (fail_if_success (rename PairsAre _ _ _ => hpp)))); k_dflt (refine' g_len (by with_reducible assumption) (by k_asm) (by k_mem) (by first | rfl | (simp only [List.length_append, List.length_drop, List.length_take]; omega)) (by omega) ?_); intro _ _)) | (((with_reducible show wpAny _ _ (binaryOp _ (Value.ref _) (Value.ref _)) _ _ _); k_here; (with_reducible show wpAny _ _ (binaryOp _ (Value.ref _) (Value.ref _)) _ _ _); (with_reducible (fail_if_success (fail_if_success (rename PairsAre _ _ _ => hpp)))); k_dflt (refine' g_add (by k_asm) (by k_asm) (by k_mem) (by k_mem) (by (simp only [List.length_drop, List.length_take]; omega)) ?_); intro _ _ _ _ l1; (try k_lt l1); revert l1; intro _; (try k_sweep))) | (((with_reducible show wpAny _ _ (subscriptTail _ (PySem.Expr.Slice none none (some _) _) (Value.ref _) (Value.ref _)) _ _ _); k_here; (with_reducible show wpAny _ _ (subscriptTail _ (PySem.Expr.Slice none none (some _) _) (Value.ref _) (Value.ref _)) _ _ _); (with_reducible (fail_if_success (fail_if_success (rename PairsAre _ _ _ => hpp)))); k_dflt (refine' krv_lit (by k_asm) (by k_asm) (by kmk_list) (by exact IsPart.int _ _) (by exact rfl) ?_ (by with_unfolding_all rfl) (by kmk_pure) (by (rw [List.size_toArray, sizeLine_eq]; simp only [List.length_append, List.length_drop, List.length_take]; omega))); intro _ _ _ _ l1; (try k_lt l1); revert l1; intro _; (try k_sweep))) | (((with_reducible show wpAny _ _ (subscriptTail _ (PySem.Expr.Slice none (some _) none _) (Value.ref _) (Value.ref _)) _ _ _); k_here; (with_reducible show wpAny _ _ (subscriptTail _ (PySem.Expr.Slice none (some _) none _) (Value.ref _) (Value.ref _)) _ _ _); (with_reducible (fail_if_success (fail_if_success (rename PairsAre _ _ _ => hpp)))); k_dflt (refine' kmk_slice_lit (by k_asm) (by k_asm) (by kmk_list) (by kmk_part) (by kmk_part) (g_upto (by omega)) ?_ (by with_unfolding_all rfl) (by kmk_pure) (by (rw [List.size_toArray, sizeLine_eq]; omega))); intro _ _ _ _ l1; (try k_lt l1); revert l1; intro _; (try k_sweep))) | (((with_reducible show wpAny _ _ (subscriptTail _ (PySem.Expr.Slice (some _) none none _) (Value.ref _) (Value.ref _)) _ _ _); k_here; (with_reducible show wpAny _ _ (subscriptTail _ (PySem.Expr.Slice (some _) none none _) (Value.ref _) (Value.ref _)) _ _ _); (with_reducible (fail_if_success (fail_if_success (rename PairsAre _ _ _ => hpp)))); k_dflt (refine' kmk_slice_lit (by k_asm) (by k_asm) (by kmk_list) (by kmk_part) (by kmk_part) (g_from (by omega)) ?_ (by with_unfolding_all rfl) (by kmk_pure) (by (rw [List.size_toArray, sizeLine_eq]; omega))); intro _ _ _ _ l1; (try k_lt l1); revert l1; intro _; (try k_sweep))) | (((with_reducible show wpAny _ _ (call (Value.type _) [_]) _ _ _); first | (refine call_type_of (typeIs_bytes _ _ _) (by decide) ?_) | (refine call_type_of (typeIs_str _ _ _) (by decide) ?_) | (refine call_type_of (typeIs_bool _ _) (by decide) ?_) | (refine call_type_of (typeIs_int _ _ _) (by decide) ?_))) | walk_at "1 step")
    all_goals (refine TEnd.mk (by k_asm) (by k_asm) ?_; simp only [decide_eq_decide]; omega)
  case hb =>
    clear lF lN
    rintro ⟨n', here, th, vs', ps', ck, oH', oP', vP', tt⟩ u' h' tk' hT ⟨g1, g2, g3, g4, g5⟩ F' N'
    dsimp only at F' N' hT g1 g2 g3 g4 g5
    have hl1 := good_len g1
    have hl2 := g2.length
    obtain ⟨n, rfl⟩ : ∃ k, n' = k + 1 := by
      rw [decide_eq_true_eq] at hT
      exact ⟨n' - 1, by omega⟩
    obtain ⟨a1, a2, a3, p, i, a4, a5, a6, a7, a8⟩ := good_succ g1
    have hilt : i < vs'.length := by
      have := (List.getElem?_eq_some_iff.mp a7).1
      omega
    with_unfolding_all refine' turn0 w mean mg mb fa L cd h₀ _ _ E _ B X T ?hE oW oH' oP' vP' tW th tt tr nf hfg hW here g3 g4 D tl vs' ps' ck g2 hat hD (by omega) a2 a3 p i a4 a5 a6 a7 ?hn F' N'
    case hE => exact hE
    case hn =>
      intro h9 tk9 m9 oH9 oP9 th9 tt9 vP9 d1 d2 F9 k9 N9
      dsimp only [WPost]
      exact WEnd.mk ⟨n, p, th9, vs'.eraseIdx i, ps'.eraseIdx i, ck + 1, oH9, oP9, vP9, tt9⟩ F9 N9 (fun _ h => h) k9 ⟨a8, g2.erase i, d1, d2, by dsimp only; omega⟩ (by dsimp only; rw [List.length_eraseIdx, if_pos hilt]; omega)



theorem seg10 (w : World) (mean : ExcName → Option Value) (mg mb : Str → Option Value) (fa L : Addr) (cd : Value) (h₀ : Heap) (s : Shared) (Q : Flow → Shared → Prop) (E : Value → Shared → Prop) (u : Str → Option Value)
    (B : Below callerA h₀ [] h₀) (X : (hd.heap_39 w.params).In h₀) (T : Top hd.view_39 loo mean mg mb h₀) (hE : PassesOwn (model PG w) (AL L fa cd) (envLaw L fa cd) E)
    (hret : ∀ h' tk' m', Fr h₀ L h' m' → Q (.ret (.bool true)) { s with heap := h', toks := tk' })(oW oH oP : Obj) (vH vP : Option Value) (tW : Tok) (nf : List Int) (hfg : Figs nf) (hW : oW.data = .cell (some (.str (S (nf.map sig)) tW))) (hH : oH.data = .cell vH) (hP : oP.data = .cell vP) (D1 : Addr) (dvs : List Value) (ds : List Int) (nd : Nat) (hI : IntsAre dvs ds) (hl : ds.length = 15) (tr : Tok)
    (D2 : Addr) (tl : CbLed) (vs : List Value) (np : List Int) (d : Int) (npd : Nat) (hpa : PairsAre tl vs ((d, true) :: (np.drop 1).map fun k => (k, false))) (hat : AllTup tl) (hnp : np ∈ PL) (hd : 0 ≤ d ∧ d < 7)
    (hD1 : @Ne Nat (L + 1 + 1 + 1) D1 ∧ @Ne Nat (L + 1 + 1 + 1 + 1) D1 ∧ @Ne Nat (L + 1 + 1 + 1 + 1 + 1) D1) (hD2 : @LT.lt Nat _ D1 D2)
    (F : Fr h₀ L s.heap (kstB u [(Str.ofString "pile", .ref D2), (Str.ofString "row", .bytes (bA (rowOf nf)) tr), (Str.ofString "draws", .ref D1)]))
    (N : News h₀ L s.heap ((D2, listOf (List.toArray vs) npd) :: (D1, listOf (List.toArray dvs) nd) :: (L + 1 + 1 + 1, oW) :: (L + 1 + 1 + 1 + 1, oH) :: (L + 1 + 1 + 1 + 1 + 1, oP) :: tl)) :
    wpAny (model PG w) (AL L fa cd) (execs ((bodyAt 29).drop 10) (envLaw L fa cd)) Q E s := by
  with_unfolding_all show wpAny _ _ (execs (_ :: _) _) _ _ _
  dsimp only [kstB] at F
  have hplen : np.length ≤ 5 ∧ 4 ≤ np.length := by
    simp only [PL, List.mem_cons, List.not_mem_nil, or_false] at hnp
    rcases hnp with rfl | rfl | rfl | rfl <;> simp
  have hvl := hpa.length
  simp only [List.length_cons, List.length_map, List.length_drop] at hvl
  have hvl1 : vs.length ≤ 5 := by omega
  have hvl2 : 4 ≤ vs.length := by omega
  have hsl : (S (nf.map sig)).length = 12 := by rw [S_length, List.length_map, hfg.1]
  have hm1 : 0 ≤ (ds.getD (Int.toNat 14) 0).fmod (vs.length : Int) ∧ (ds.getD (Int.toNat 14) 0).fmod (vs.length : Int) < vs.length := by
    rw [Int.fmod_eq_emod_of_nonneg _ (by omega)]; exact ⟨Int.emod_nonneg _ (by omega), Int.emod_lt_of_pos _ (by omega)⟩
  have hT4 : ∀ p ∈ tl, p.1 ≠ L + 1 + 1 + 1 + 1 := tl_cell N (fun p hp => .tail _ (.tail _ (.tail _ (.tail _ (.tail _ hp))))) hat (by k_mem) hH
  have hx4 : @Ne Nat D2 (L + 1 + 1 + 1 + 1) := tl_seq N (by k_mem : (D2, listOf (List.toArray vs) npd) ∈ _) (by k_mem : (L + 1 + 1 + 1 + 1, oH) ∈ _) rfl hH
  have hx5 : @Ne Nat D2 (L + 1 + 1 + 1 + 1 + 1) := tl_seq N (by k_mem : (D2, listOf (List.toArray vs) npd) ∈ _) (by k_mem : (L + 1 + 1 + 1 + 1 + 1, oP) ∈ _) rfl hP
  have hT5 : ∀ p ∈ tl, p.1 ≠ L + 1 + 1 + 1 + 1 + 1 := tl_cell N (fun p hp => .tail _ (.tail _ (.tail _ (.tail _ (.tail _ hp))))) hat (by k_mem) hP
  repeat' ((fail_if_success (with_reducible show wpAny _ _ (PySem.execs [_, _, _] _) _ _ _)); (first | (((with_reducible show wpAny _ _ (call (Value.ref 116) [Value.str _ _]) _ _ _); k_here; (with_reducible show wpAny _ _ (call (Value.ref 116) [Value.str _ _]) _ _ _); k_dflt ((refine' c_back _ _ _ _ _ _ _ (by assumption) _ _ _ _ _ _ _ _ _ _ _ _ _ _ _ _ _ (by k_asm) (by k_asm) (by k_asm) (by with_reducible assumption) (by k_asm) (by first | exact rfl | assumption) (by ktr_room) (by ktr_units) ?_)); intro _ _ _ _ _; (try dsimp only); (try k_sweep))) | (((with_reducible show wpAny _ _ (call (Value.builtin "len") [Value.ref _]) _ _ _); k_here; (with_reducible show wpAny _ _ (call (Value.builtin "len") [Value.ref _]) _ _ _); (with_reducible (fail_if_success (fail_if_success (rename PairsAre _ _ _ => hpp)))); k_dflt (refine' g_len (by with_reducible assumption) (by k_asm) (by k_mem) (by first | rfl | (simp only [List.length_append, List.length_drop, List.length_take]; omega)) (by omega) ?_); intro _ _)) | (((with_reducible show wpAny _ _ (binaryOp _ (Value.ref _) (Value.ref _)) _ _ _); k_here; (with_reducible show wpAny _ _ (binaryOp _ (Value.ref _) (Value.ref _)) _ _ _); (with_reducible (fail_if_success (fail_if_success (rename PairsAre _ _ _ => hpp)))); k_dflt (refine' g_add (by k_asm) (by k_asm) (by k_mem) (by k_mem) (by (simp only [List.length_drop, List.length_take]; omega)) ?_); intro _ _ _ _ l1; (try k_lt l1); revert l1; intro _; (try k_sweep))) | (((with_reducible show wpAny _ _ (subscriptTail _ (PySem.Expr.Slice none none (some _) _) (Value.ref _) (Value.ref _)) _ _ _); k_here; (with_reducible show wpAny _ _ (subscriptTail _ (PySem.Expr.Slice none none (some _) _) (Value.ref _) (Value.ref _)) _ _ _); (with_reducible (fail_if_success (fail_if_success (rename PairsAre _ _ _ => hpp)))); k_dflt (refine' krv_lit (by k_asm) (by k_asm) (by kmk_list) (by exact IsPart.int _ _) (by exact rfl) ?_ (by with_unfolding_all rfl) (by kmk_pure) (by (rw [List.size_toArray, sizeLine_eq]; simp only [List.length_append, List.length_drop, List.length_take]; omega))); intro _ _ _ _ l1; (try k_lt l1); revert l1; intro _; (try k_sweep))) | (((with_reducible show wpAny _ _ (subscriptTail _ (PySem.Expr.Slice none (some _) none _) (Value.ref _) (Value.ref _)) _ _ _); k_here; (with_reducible show wpAny _ _ (subscriptTail _ (PySem.Expr.Slice none (some _) none _) (Value.ref _) (Value.ref _)) _ _ _); (with_reducible (fail_if_success (fail_if_success (rename PairsAre _ _ _ => hpp)))); k_dflt (refine' kmk_slice_lit (by k_asm) (by k_asm) (by kmk_list) (by kmk_part) (by kmk_part) (g_upto (by omega)) ?_ (by with_unfolding_all rfl) (by kmk_pure) (by (rw [List.size_toArray, sizeLine_eq]; omega))); intro _ _ _ _ l1; (try k_lt l1); revert l1; intro _; (try k_sweep))) | (((with_reducible show wpAny _ _ (subscriptTail _ (PySem.Expr.Slice (some _) none none _) (Value.ref _) (Value.ref _)) _ _ _); k_here; (with_reducible show wpAny _ _ (subscriptTail _ (PySem.Expr.Slice (some _) none none _) (Value.ref _) (Value.ref _)) _ _ _); (with_reducible (fail_if_success (fail_if_success (rename PairsAre _ _ _ => hpp)))); k_dflt (refine' kmk_slice_lit (by k_asm) (by k_asm) (by kmk_list) (by kmk_part) (by kmk_part) (g_from (by omega)) ?_ (by with_unfolding_all rfl) (by kmk_pure) (by (rw [List.size_toArray, sizeLine_eq]; omega))); intro _ _ _ _ l1; (try k_lt l1); revert l1; intro _; (try k_sweep))) | (((with_reducible show wpAny _ _ (call (Value.type _) [_]) _ _ _); first | (refine call_type_of (typeIs_bytes _ _ _) (by decide) ?_) | (refine call_type_of (typeIs_str _ _ _) (by decide) ?_) | (refine call_type_of (typeIs_bool _ _) (by decide) ?_) | (refine call_type_of (typeIs_int _ _ _) (by decide) ?_))) | walk_at "1 step"))
  · rename Fr _ _ _ _ => lF
    rename News _ _ _ _ => lN
    rename PairsAre _ _ _ => hpa
    have e6 : Txt.slice (S (nf.map sig)) none (some 6) = S ((nf.map sig).take 6) := sl_to (by decide) (by rw [List.length_map, hfg.1]; decide)
    rw [e6] at lF
    have hgs := good_start hnp hd (t := (ds.getD (Int.toNat 14) 0).fmod (vs.length : Int)) ⟨hm1.1, by omega⟩
    rename (_ ∧ _ ∧ _ ∧ _ ∧ L + 1 + 1 + 1 < _ ∧ L + 1 + 1 + 1 + 1 < _ ∧ L + 1 + 1 + 1 + 1 + 1 < _ ∧ _) => hlt
    with_unfolding_all refine' seg14 w mean mg mb fa L cd h₀ _ Q E _ B X T hE ?hr61 oW _ oP vP tW _ _ _ nf hfg hW (by assumption) hP _ tl ((vs.drop ((ds.getD (Int.toNat 14) 0).fmod (vs.length : Int)).toNat ++ vs.take ((ds.getD (Int.toNat 14) 0).fmod (vs.length : Int)).toNat).reverse) _ (np.length - 1) 0 (by omega) (((hpa.drop _).append (hpa.take _)).reverse) hat hgs.2 ?hD61 (fr_kst lF ?hk61) (fun p hp => lN p ?hm61)
    case hr61 => exact fun h9 tk9 m9 F9 => hret h9 tk9 m9 F9
    case hk61 => kst_all
    case hm61 =>
      simp only [List.mem_cons] at hp ⊢
      rcases hp with h | h | h | h | h <;> simp [h]
    case hD61 => omega
  · rename Fr _ _ _ _ => lF
    rename News _ _ _ _ => lN
    rename PairsAre _ _ _ => hpa
    have e6 : Txt.slice (S (nf.map sig)) none (some 6) = S ((nf.map sig).take 6) := sl_to (by decide) (by rw [List.length_map, hfg.1]; decide)
    rw [e6] at lF
    have hgs := good_start hnp hd (t := (ds.getD (Int.toNat 14) 0).fmod (vs.length : Int)) ⟨hm1.1, by omega⟩
    rename (_ ∧ _ ∧ _ ∧ L + 1 + 1 + 1 < _ ∧ L + 1 + 1 + 1 + 1 < _ ∧ L + 1 + 1 + 1 + 1 + 1 < _ ∧ _) => hlt
    with_unfolding_all refine' seg14 w mean mg mb fa L cd h₀ _ Q E _ B X T hE ?hr62 oW _ oP vP tW _ _ _ nf hfg hW (by assumption) hP _ tl (vs.drop ((ds.getD (Int.toNat 14) 0).fmod (vs.length : Int)).toNat ++ vs.take ((ds.getD (Int.toNat 14) 0).fmod (vs.length : Int)).toNat) _ (np.length - 1) 0 (by omega) ((hpa.drop _).append (hpa.take _)) hat hgs.1 ?hD62 (fr_kst lF ?hk62) (fun p hp => lN p ?hm62)
    case hr62 => exact fun h9 tk9 m9 F9 => hret h9 tk9 m9 F9
    case hk62 => kst_all
    case hm62 =>
      simp only [List.mem_cons] at hp ⊢
      rcases hp with h | h | h | h | h <;> simp [h]
    case hD62 => omega

theorem seg9 (w : World) (mean : ExcName → Option Value) (mg mb : Str → Option Value) (fa L : Addr) (cd : Value) (h₀ : Heap) (s : Shared) (Q : Flow → Shared → Prop) (E : Value → Shared → Prop) (u : Str → Option Value)
    (B : Below callerA h₀ [] h₀) (X : (hd.heap_39 w.params).In h₀) (T : Top hd.view_39 loo mean mg mb h₀) (hE : PassesOwn (model PG w) (AL L fa cd) (envLaw L fa cd) E)
    (hret : ∀ h' tk' m', Fr h₀ L h' m' → Q (.ret (.bool true)) { s with heap := h', toks := tk' })(oW oH oP : Obj) (vH vP : Option Value) (tW : Tok) (nf : List Int) (hfg : Figs nf) (hW : oW.data = .cell (some (.str (S (nf.map sig)) tW))) (hH : oH.data = .cell vH) (hP : oP.data = .cell vP) (D1 : Addr) (dvs : List Value) (ds : List Int) (nd : Nat) (hI : IntsAre dvs ds) (hl : ds.length = 15) (tr : Tok)
    (P1 : Addr) (pvs : List Value) (np : List Int) (npd : Nat) (hIp : IntsAre pvs np) (hnp : np ∈ PL)
    (hD1 : @Ne Nat (L + 1 + 1 + 1) D1 ∧ @Ne Nat (L + 1 + 1 + 1 + 1) D1 ∧ @Ne Nat (L + 1 + 1 + 1 + 1 + 1) D1) (hP1 : @LT.lt Nat _ D1 P1)
    (F : Fr h₀ L s.heap (kstB u [(Str.ofString "places", .ref P1), (Str.ofString "row", .bytes (bA (rowOf nf)) tr), (Str.ofString "draws", .ref D1)]))
    (N : News h₀ L s.heap [(P1, listOf (List.toArray pvs) npd), (D1, listOf (List.toArray dvs) nd), (L + 1 + 1 + 1, oW), (L + 1 + 1 + 1 + 1, oH), (L + 1 + 1 + 1 + 1 + 1, oP)]) :
    wpAny (model PG w) (AL L fa cd) (execs ((bodyAt 29).drop 9) (envLaw L fa cd)) Q E s := by
  with_unfolding_all show wpAny _ _ (execs (_ :: _) _) _ _ _
  dsimp only [kstB] at F
  have hplen : np.length ≤ 5 := by
    simp only [PL, List.mem_cons, List.not_mem_nil, or_false] at hnp
    rcases hnp with rfl | rfl | rfl | rfl <;> simp
  have hpl := hIp.length
  repeat' ((fail_if_success (with_reducible show wpAny _ _ (PySem.eval (Expr.ListComp _ _ _ _) _) _ _ _)); (first | (((with_reducible show wpAny _ _ (call (Value.ref 116) [Value.str _ _]) _ _ _); k_here; (with_reducible show wpAny _ _ (call (Value.ref 116) [Value.str _ _]) _ _ _); k_dflt ((refine' c_back _ _ _ _ _ _ _ (by assumption) _ _ _ _ _ _ _ _ _ _ _ _ _ _ _ _ _ (by k_asm) (by k_asm) (by k_asm) (by with_reducible assumption) (by k_asm) (by first | exact rfl | assumption) (by ktr_room) (by ktr_units) ?_)); intro _ _ _ _ _; (try dsimp only); (try k_sweep))) | (((with_reducible show wpAny _ _ (call (Value.builtin "len") [Value.ref _]) _ _ _); k_here; (with_reducible show wpAny _ _ (call (Value.builtin "len") [Value.ref _]) _ _ _); (with_reducible (fail_if_success (fail_if_success (rename PairsAre _ _ _ => hpp)))); k_dflt (refine' g_len (by with_reducible assumption) (by k_asm) (by k_mem) (by first | rfl | (simp only [List.length_append, List.length_drop, List.length_take]; omega)) (by omega) ?_); intro _ _)) | (((with_reducible show wpAny _ _ (binaryOp _ (Value.ref _) (Value.ref _)) _ _ _); k_here; (with_reducible show wpAny _ _ (binaryOp _ (Value.ref _) (Value.ref _)) _ _ _); (with_reducible (fail_if_success (fail_if_success (rename PairsAre _ _ _ => hpp)))); k_dflt (refine' g_add (by k_asm) (by k_asm) (by k_mem) (by k_mem) (by (simp only [List.length_drop, List.length_take]; omega)) ?_); intro _ _ _ _ l1; (try k_lt l1); revert l1; intro _; (try k_sweep))) | (((with_reducible show wpAny _ _ (subscriptTail _ (PySem.Expr.Slice none none (some _) _) (Value.ref _) (Value.ref _)) _ _ _); k_here; (with_reducible show wpAny _ _ (subscriptTail _ (PySem.Expr.Slice none none (some _) _) (Value.ref _) (Value.ref _)) _ _ _); (with_reducible (fail_if_success (fail_if_success (rename PairsAre _ _ _ => hpp)))); k_dflt (refine' krv_lit (by k_asm) (by k_asm) (by kmk_list) (by exact IsPart.int _ _) (by exact rfl) ?_ (by with_unfolding_all rfl) (by kmk_pure) (by (rw [List.size_toArray, sizeLine_eq]; simp only [List.length_append, List.length_drop, List.length_take]; omega))); intro _ _ _ _ l1; (try k_lt l1); revert l1; intro _; (try k_sweep))) | (((with_reducible show wpAny _ _ (subscriptTail _ (PySem.Expr.Slice none (some _) none _) (Value.ref _) (Value.ref _)) _ _ _); k_here; (with_reducible show wpAny _ _ (subscriptTail _ (PySem.Expr.Slice none (some _) none _) (Value.ref _) (Value.ref _)) _ _ _); (with_reducible (fail_if_success (fail_if_success (rename PairsAre _ _ _ => hpp)))); k_dflt (refine' kmk_slice_lit (by k_asm) (by k_asm) (by kmk_list) (by kmk_part) (by kmk_part) (g_upto (by omega)) ?_ (by with_unfolding_all rfl) (by kmk_pure) (by (rw [List.size_toArray, sizeLine_eq]; omega))); intro _ _ _ _ l1; (try k_lt l1); revert l1; intro _; (try k_sweep))) | (((with_reducible show wpAny _ _ (subscriptTail _ (PySem.Expr.Slice (some _) none none _) (Value.ref _) (Value.ref _)) _ _ _); k_here; (with_reducible show wpAny _ _ (subscriptTail _ (PySem.Expr.Slice (some _) none none _) (Value.ref _) (Value.ref _)) _ _ _); (with_reducible (fail_if_success (fail_if_success (rename PairsAre _ _ _ => hpp)))); k_dflt (refine' kmk_slice_lit (by k_asm) (by k_asm) (by kmk_list) (by kmk_part) (by kmk_part) (g_from (by omega)) ?_ (by with_unfolding_all rfl) (by kmk_pure) (by (rw [List.size_toArray, sizeLine_eq]; omega))); intro _ _ _ _ l1; (try k_lt l1); revert l1; intro _; (try k_sweep))) | (((with_reducible show wpAny _ _ (call (Value.type _) [_]) _ _ _); first | (refine call_type_of (typeIs_bytes _ _ _) (by decide) ?_) | (refine call_type_of (typeIs_str _ _ _) (by decide) ?_) | (refine call_type_of (typeIs_bool _ _) (by decide) ?_) | (refine call_type_of (typeIs_int _ _ _) (by decide) ?_))) | walk_at "1 step"))
  k_dflt (refine LCg.ListComp_U (F₀ := by k_asm) (by with_unfolding_all rfl) (by decide) (by rfl) (by decide) (by rfl) ?_)
  repeat' ((fail_if_success (with_reducible show LCg.CompSrc _ _ _ _ _ _ _ _ _ _ _ _ _ _)); (first | (((with_reducible show wpAny _ _ (call (Value.ref 116) [Value.str _ _]) _ _ _); k_here; (with_reducible show wpAny _ _ (call (Value.ref 116) [Value.str _ _]) _ _ _); k_dflt ((refine' c_back _ _ _ _ _ _ _ (by assumption) _ _ _ _ _ _ _ _ _ _ _ _ _ _ _ _ _ (by k_asm) (by k_asm) (by k_asm) (by with_reducible assumption) (by k_asm) (by first | exact rfl | assumption) (by ktr_room) (by ktr_units) ?_)); intro _ _ _ _ _; (try dsimp only); (try k_sweep))) | (((with_reducible show wpAny _ _ (call (Value.builtin "len") [Value.ref _]) _ _ _); k_here; (with_reducible show wpAny _ _ (call (Value.builtin "len") [Value.ref _]) _ _ _); (with_reducible (fail_if_success (fail_if_success (rename PairsAre _ _ _ => hpp)))); k_dflt (refine' g_len (by with_reducible assumption) (by k_asm) (by k_mem) (by first | rfl | (simp only [List.length_append, List.length_drop, List.length_take]; omega)) (by omega) ?_); intro _ _)) | (((with_reducible show wpAny _ _ (binaryOp _ (Value.ref _) (Value.ref _)) _ _ _); k_here; (with_reducible show wpAny _ _ (binaryOp _ (Value.ref _) (Value.ref _)) _ _ _); (with_reducible (fail_if_success (fail_if_success (rename PairsAre _ _ _ => hpp)))); k_dflt (refine' g_add (by k_asm) (by k_asm) (by k_mem) (by k_mem) (by (simp only [List.length_drop, List.length_take]; omega)) ?_); intro _ _ _ _ l1; (try k_lt l1); revert l1; intro _; (try k_sweep))) | (((with_reducible show wpAny _ _ (subscriptTail _ (PySem.Expr.Slice none none (some _) _) (Value.ref _) (Value.ref _)) _ _ _); k_here; (with_reducible show wpAny _ _ (subscriptTail _ (PySem.Expr.Slice none none (some _) _) (Value.ref _) (Value.ref _)) _ _ _); (with_reducible (fail_if_success (fail_if_success (rename PairsAre _ _ _ => hpp)))); k_dflt (refine' krv_lit (by k_asm) (by k_asm) (by kmk_list) (by exact IsPart.int _ _) (by exact rfl) ?_ (by with_unfolding_all rfl) (by kmk_pure) (by (rw [List.size_toArray, sizeLine_eq]; simp only [List.length_append, List.length_drop, List.length_take]; omega))); intro _ _ _ _ l1; (try k_lt l1); revert l1; intro _; (try k_sweep))) | (((with_reducible show wpAny _ _ (subscriptTail _ (PySem.Expr.Slice none (some _) none _) (Value.ref _) (Value.ref _)) _ _ _); k_here; (with_reducible show wpAny _ _ (subscriptTail _ (PySem.Expr.Slice none (some _) none _) (Value.ref _) (Value.ref _)) _ _ _); (with_reducible (fail_if_success (fail_if_success (rename PairsAre _ _ _ => hpp)))); k_dflt (refine' kmk_slice_lit (by k_asm) (by k_asm) (by kmk_list) (by kmk_part) (by kmk_part) (g_upto (by omega)) ?_ (by with_unfolding_all rfl) (by kmk_pure) (by (rw [List.size_toArray, sizeLine_eq]; omega))); intro _ _ _ _ l1; (try k_lt l1); revert l1; intro _; (try k_sweep))) | (((with_reducible show wpAny _ _ (subscriptTail _ (PySem.Expr.Slice (some _) none none _) (Value.ref _) (Value.ref _)) _ _ _); k_here; (with_reducible show wpAny _ _ (subscriptTail _ (PySem.Expr.Slice (some _) none none _) (Value.ref _) (Value.ref _)) _ _ _); (with_reducible (fail_if_success (fail_if_success (rename PairsAre _ _ _ => hpp)))); k_dflt (refine' kmk_slice_lit (by k_asm) (by k_asm) (by kmk_list) (by kmk_part) (by kmk_part) (g_from (by omega)) ?_ (by with_unfolding_all rfl) (by kmk_pure) (by (rw [List.size_toArray, sizeLine_eq]; omega))); intro _ _ _ _ l1; (try k_lt l1); revert l1; intro _; (try k_sweep))) | (((with_reducible show wpAny _ _ (call (Value.type _) [_]) _ _ _); first | (refine call_type_of (typeIs_bytes _ _ _) (by decide) ?_) | (refine call_type_of (typeIs_str _ _ _) (by decide) ?_) | (refine call_type_of (typeIs_bool _ _) (by decide) ?_) | (refine call_type_of (typeIs_int _ _ _) (by decide) ?_))) | walk_at "1 step"))
  rename IntsAre _ (List.drop _ _) => hId
  have hdl := hId.length
  rw [List.length_drop] at hdl
  refine LCg.CompSrc.ledger rfl (by k_asm) (by k_asm) (by k_mem) (by rw [List.size_toArray, sizeLine_eq]; omega) ?_
  intro g'
  refine' tup_rest hId (fun k t I oI C oC D m ys h tk nw E' hC hx F9 N9 off ne hb => ?_) ?_
  · repeat' (first | (((with_reducible show wpAny _ _ (call (Value.ref 116) [Value.str _ _]) _ _ _); k_here; (with_reducible show wpAny _ _ (call (Value.ref 116) [Value.str _ _]) _ _ _); k_dflt ((refine' c_back _ _ _ _ _ _ _ (by assumption) _ _ _ _ _ _ _ _ _ _ _ _ _ _ _ _ _ (by k_asm) (by k_asm) (by k_asm) (by with_reducible assumption) (by k_asm) (by first | exact rfl | assumption) (by ktr_room) (by ktr_units) ?_)); intro _ _ _ _ _; (try dsimp only); (try k_sweep))) | (((with_reducible show wpAny _ _ (call (Value.builtin "len") [Value.ref _]) _ _ _); k_here; (with_reducible show wpAny _ _ (call (Value.builtin "len") [Value.ref _]) _ _ _); (with_reducible (fail_if_success (fail_if_success (rename PairsAre _ _ _ => hpp)))); k_dflt (refine' g_len (by with_reducible assumption) (by k_asm) (by k_mem) (by first | rfl | (simp only [List.length_append, List.length_drop, List.length_take]; omega)) (by omega) ?_); intro _ _)) | (((with_reducible show wpAny _ _ (binaryOp _ (Value.ref _) (Value.ref _)) _ _ _); k_here; (with_reducible show wpAny _ _ (binaryOp _ (Value.ref _) (Value.ref _)) _ _ _); (with_reducible (fail_if_success (fail_if_success (rename PairsAre _ _ _ => hpp)))); k_dflt (refine' g_add (by k_asm) (by k_asm) (by k_mem) (by k_mem) (by (simp only [List.length_drop, List.length_take]; omega)) ?_); intro _ _ _ _ l1; (try k_lt l1); revert l1; intro _; (try k_sweep))) | (((with_reducible show wpAny _ _ (subscriptTail _ (PySem.Expr.Slice none none (some _) _) (Value.ref _) (Value.ref _)) _ _ _); k_here; (with_reducible show wpAny _ _ (subscriptTail _ (PySem.Expr.Slice none none (some _) _) (Value.ref _) (Value.ref _)) _ _ _); (with_reducible (fail_if_success (fail_if_success (rename PairsAre _ _ _ => hpp)))); k_dflt (refine' krv_lit (by k_asm) (by k_asm) (by kmk_list) (by exact IsPart.int _ _) (by exact rfl) ?_ (by with_unfolding_all rfl) (by kmk_pure) (by (rw [List.size_toArray, sizeLine_eq]; simp only [List.length_append, List.length_drop, List.length_take]; omega))); intro _ _ _ _ l1; (try k_lt l1); revert l1; intro _; (try k_sweep))) | (((with_reducible show wpAny _ _ (subscriptTail _ (PySem.Expr.Slice none (some _) none _) (Value.ref _) (Value.ref _)) _ _ _); k_here; (with_reducible show wpAny _ _ (subscriptTail _ (PySem.Expr.Slice none (some _) none _) (Value.ref _) (Value.ref _)) _ _ _); (with_reducible (fail_if_success (fail_if_success (rename PairsAre _ _ _ => hpp)))); k_dflt (refine' kmk_slice_lit (by k_asm) (by k_asm) (by kmk_list) (by kmk_part) (by kmk_part) (g_upto (by omega)) ?_ (by with_unfolding_all rfl) (by kmk_pure) (by (rw [List.size_toArray, sizeLine_eq]; omega))); intro _ _ _ _ l1; (try k_lt l1); revert l1; intro _; (try k_sweep))) | (((with_reducible show wpAny _ _ (subscriptTail _ (PySem.Expr.Slice (some _) none none _) (Value.ref _) (Value.ref _)) _ _ _); k_here; (with_reducible show wpAny _ _ (subscriptTail _ (PySem.Expr.Slice (some _) none none _) (Value.ref _) (Value.ref _)) _ _ _); (with_reducible (fail_if_success (fail_if_success (rename PairsAre _ _ _ => hpp)))); k_dflt (refine' kmk_slice_lit (by k_asm) (by k_asm) (by kmk_list) (by kmk_part) (by kmk_part) (g_from (by omega)) ?_ (by with_unfolding_all rfl) (by kmk_pure) (by (rw [List.size_toArray, sizeLine_eq]; omega))); intro _ _ _ _ l1; (try k_lt l1); revert l1; intro _; (try k_sweep))) | (((with_reducible show wpAny _ _ (call (Value.type _) [_]) _ _ _); first | (refine call_type_of (typeIs_bytes _ _ _) (by decide) ?_) | (refine call_type_of (typeIs_str _ _ _) (by decide) ?_) | (refine call_type_of (typeIs_bool _ _) (by decide) ?_) | (refine call_type_of (typeIs_int _ _ _) (by decide) ?_))) | walk_at "1 step")
    rename Fr _ _ _ _ => lF
    rename News _ _ _ _ => lN
    rename (_ ∧ _ ∧ _ ∧ AllLt _ nw) => hlt
    refine LCg.CompEnd.intro lF lN (_ :: nw) ?_ ?_ (.inr ⟨_, .tail _ (hb _ (.head _)), rfl, _, rfl⟩) ⟨_, t, rfl, rfl⟩
    · intro p hp
      simp only [List.mem_cons] at hp ⊢
      rcases hp with h | h | h | h | h <;> simp [h]
    · exact ⟨⟨(Nat.ne_of_lt hlt.1).symm, (Nat.ne_of_lt hlt.2.1).symm, (Nat.ne_of_lt hlt.2.2.1).symm⟩, off⟩
  · intro ys tl hpa hat
    unfold LCg.FinE
    intro D9 h9 tk9 F9 N9 o9
    dsimp only
    have hyl := hpa.length
    rw [List.length_map, List.length_drop] at hyl
    rename_i Dt _ _ lt _ _ Ds wl _ _ _ _ _ _
    refine g_add F9 N9 (n1 := 0) (n2 := ys.length) (.tail _ (List.mem_append_right _ (.tail _ (.head _)))) (.head _) (by simp only [List.length_cons, List.length_nil]; omega) ?_
    intro D2 h2 F2 N2 hlt2
    clear F9 N9
    have hD12 : D1 < D2 := hlt2 (D1, _) (.tail _ (List.mem_append_right _ (by k_mem)))
    repeat' ((fail_if_success (with_reducible show wpAny _ _ (PySem.execs [_, _, _, _, _, _, _] _) _ _ _)); (first | (((with_reducible show wpAny _ _ (call (Value.ref 116) [Value.str _ _]) _ _ _); k_here; (with_reducible show wpAny _ _ (call (Value.ref 116) [Value.str _ _]) _ _ _); k_dflt ((refine' c_back _ _ _ _ _ _ _ (by assumption) _ _ _ _ _ _ _ _ _ _ _ _ _ _ _ _ _ (by k_asm) (by k_asm) (by k_asm) (by with_reducible assumption) (by k_asm) (by first | exact rfl | assumption) (by ktr_room) (by ktr_units) ?_)); intro _ _ _ _ _; (try dsimp only); (try k_sweep))) | (((with_reducible show wpAny _ _ (call (Value.builtin "len") [Value.ref _]) _ _ _); k_here; (with_reducible show wpAny _ _ (call (Value.builtin "len") [Value.ref _]) _ _ _); (with_reducible (fail_if_success (fail_if_success (rename PairsAre _ _ _ => hpp)))); k_dflt (refine' g_len (by with_reducible assumption) (by k_asm) (by k_mem) (by first | rfl | (simp only [List.length_append, List.length_drop, List.length_take]; omega)) (by omega) ?_); intro _ _)) | (((with_reducible show wpAny _ _ (binaryOp _ (Value.ref _) (Value.ref _)) _ _ _); k_here; (with_reducible show wpAny _ _ (binaryOp _ (Value.ref _) (Value.ref _)) _ _ _); (with_reducible (fail_if_success (fail_if_success (rename PairsAre _ _ _ => hpp)))); k_dflt (refine' g_add (by k_asm) (by k_asm) (by k_mem) (by k_mem) (by (simp only [List.length_drop, List.length_take]; omega)) ?_); intro _ _ _ _ l1; (try k_lt l1); revert l1; intro _; (try k_sweep))) | (((with_reducible show wpAny _ _ (subscriptTail _ (PySem.Expr.Slice none none (some _) _) (Value.ref _) (Value.ref _)) _ _ _); k_here; (with_reducible show wpAny _ _ (subscriptTail _ (PySem.Expr.Slice none none (some _) _) (Value.ref _) (Value.ref _)) _ _ _); (with_reducible (fail_if_success (fail_if_success (rename PairsAre _ _ _ => hpp)))); k_dflt (refine' krv_lit (by k_asm) (by k_asm) (by kmk_list) (by exact IsPart.int _ _) (by exact rfl) ?_ (by with_unfolding_all rfl) (by kmk_pure) (by (rw [List.size_toArray, sizeLine_eq]; simp only [List.length_append, List.length_drop, List.length_take]; omega))); intro _ _ _ _ l1; (try k_lt l1); revert l1; intro _; (try k_sweep))) | (((with_reducible show wpAny _ _ (subscriptTail _ (PySem.Expr.Slice none (some _) none _) (Value.ref _) (Value.ref _)) _ _ _); k_here; (with_reducible show wpAny _ _ (subscriptTail _ (PySem.Expr.Slice none (some _) none _) (Value.ref _) (Value.ref _)) _ _ _); (with_reducible (fail_if_success (fail_if_success (rename PairsAre _ _ _ => hpp)))); k_dflt (refine' kmk_slice_lit (by k_asm) (by k_asm) (by kmk_list) (by kmk_part) (by kmk_part) (g_upto (by omega)) ?_ (by with_unfolding_all rfl) (by kmk_pure) (by (rw [List.size_toArray, sizeLine_eq]; omega))); intro _ _ _ _ l1; (try k_lt l1); revert l1; intro _; (try k_sweep))) | (((with_reducible show wpAny _ _ (subscriptTail _ (PySem.Expr.Slice (some _) none none _) (Value.ref _) (Value.ref _)) _ _ _); k_here; (with_reducible show wpAny _ _ (subscriptTail _ (PySem.Expr.Slice (some _) none none _) (Value.ref _) (Value.ref _)) _ _ _); (with_reducible (fail_if_success (fail_if_success (rename PairsAre _ _ _ => hpp)))); k_dflt (refine' kmk_slice_lit (by k_asm) (by k_asm) (by kmk_list) (by kmk_part) (by kmk_part) (g_from (by omega)) ?_ (by with_unfolding_all rfl) (by kmk_pure) (by (rw [List.size_toArray, sizeLine_eq]; omega))); intro _ _ _ _ l1; (try k_lt l1); revert l1; intro _; (try k_sweep))) | (((with_reducible show wpAny _ _ (call (Value.type _) [_]) _ _ _); first | (refine call_type_of (typeIs_bytes _ _ _) (by decide) ?_) | (refine call_type_of (typeIs_str _ _ _) (by decide) ?_) | (refine call_type_of (typeIs_bool _ _) (by decide) ?_) | (refine call_type_of (typeIs_int _ _ _) (by decide) ?_))) | walk_at "1 step"))
    rename Fr _ _ _ _ => lF
    rename News _ _ _ _ => lN
    have h7 : 0 ≤ (ds.getD (Int.toNat 13) 0).fmod 7 ∧ (ds.getD (Int.toNat 13) 0).fmod 7 < 7 := by
      rw [Int.fmod_eq_emod_of_nonneg _ (by decide)]; omega
    with_unfolding_all refine' seg10 w mean mg mb fa L cd h₀ _ Q E _ B X T hE ?hr oW oH oP vH vP tW nf hfg hW hH hP D1 dvs ds nd hI hl tr D2 ((Dt, tupO ((ds.getD (Int.toNat 13) 0).fmod 7) (s.toks + 1 + 1) true) :: tl) _ np ((ds.getD (Int.toNat 13) 0).fmod 7) 0 (.cons Dt _ _ true (.head _) (hpa.sub fun p hp => .tail _ hp)) (AllTup.cons hat) hnp h7 hD1 hD12 (fr_kst lF ?hk9) (fun p hp => lN p ?hm9)
    case hr => exact fun h9 tk9 m9 F9 => hret h9 tk9 m9 F9
    case hk9 => kst_all
    case hm9 =>
      simp only [List.mem_cons, List.mem_append] at hp ⊢
      rcases hp with h | h | h | h | h | h | h <;> simp [h]
end
section

theorem seg8 (w : World) (mean : ExcName → Option Value) (mg mb : Str → Option Value) (fa L : Addr) (cd : Value) (h₀ : Heap) (s : Shared) (Q : Flow → Shared → Prop) (E : Value → Shared → Prop) (u : Str → Option Value)
    (B : Below callerA h₀ [] h₀) (X : (hd.heap_39 w.params).In h₀) (T : Top hd.view_39 loo mean mg mb h₀) (hE : PassesOwn (model PG w) (AL L fa cd) (envLaw L fa cd) E)
    (hret : ∀ h' tk' m', Fr h₀ L h' m' → Q (.ret (.bool true)) { s with heap := h', toks := tk' })(oW oH oP : Obj) (vH vP : Option Value) (tW : Tok) (nf : List Int) (hfg : Figs nf) (hW : oW.data = .cell (some (.str (S (nf.map sig)) tW))) (hH : oH.data = .cell vH) (hP : oP.data = .cell vP) (D1 : Addr) (dvs : List Value) (ds : List Int) (nd : Nat) (hI : IntsAre dvs ds) (hl : ds.length = 15) (tr : Tok)
    (hD1 : @Ne Nat (L + 1 + 1 + 1) D1 ∧ @Ne Nat (L + 1 + 1 + 1 + 1) D1 ∧ @Ne Nat (L + 1 + 1 + 1 + 1 + 1) D1)
    (F : Fr h₀ L s.heap (kstB u [(Str.ofString "row", .bytes (bA (rowOf nf)) tr), (Str.ofString "draws", .ref D1)]))
    (N : News h₀ L s.heap [(D1, listOf (List.toArray dvs) nd), (L + 1 + 1 + 1, oW), (L + 1 + 1 + 1 + 1, oH), (L + 1 + 1 + 1 + 1 + 1, oP)]) :
    wpAny (model PG w) (AL L fa cd) (execs ((bodyAt 29).drop 8) (envLaw L fa cd)) Q E s := by
  with_unfolding_all show wpAny _ _ (execs (_ :: _) _) _ _ _
  dsimp only [kstB] at F
  repeat' ((fail_if_success (with_reducible show wpAny _ _ (PySem.execs [_, _, _, _, _, _, _, _] _) _ _ _)); (first | ((k_openite; (with_reducible show (if (_ != _) = true then _ else _)); refine ite_neg (by rw [bne_self_eq_false]; exact Bool.false_ne_true) ?_)) | (((with_reducible show wpAny _ _ (call (Value.builtin "bytes.decode") [Value.bytes (bA _) _, Value.str _ _]) _ _ _); refine call_decode2 (by assumption) (by omega) (by omega) ?_; intro _ _)) | (((with_reducible show wpAny _ _ (call (Value.ref 108) [Value.bytes _ _]) _ _ _); k_here; (with_reducible show wpAny _ _ (call (Value.ref 108) [Value.bytes _ _]) _ _ _); (with_reducible rename News _ _ _ _ => N8); k_dflt ((refine' c_row _ _ _ _ _ _ _ _ _ _ _ _ _ _ _ _ _ _ (by assumption) _ _ _ _ _ _ _ _ _ _ _ _ _ _ _ _ _ (by k_asm) (by k_asm) (by k_asm) N8 (by k_asm) (by first | exact rfl | assumption) (by ktr_room) (by ktr_units) ?_)); intro _ _ _ _ _; (try dsimp only); (try k_sweep))) | (((with_reducible show wpAny _ _ (call (Value.ref 128) [Value.ref _]) _ _ _); k_here; (with_reducible show wpAny _ _ (call (Value.ref 128) [Value.ref _]) _ _ _); (with_reducible rename News _ _ _ _ => N8); k_dflt ((refine' c_text2 _ _ _ _ _ _ _ _ _ (by assumption) (by assumption) (by assumption) (by k_mem) _ _ _ _ _ _ _ _ _ _ _ _ _ _ _ _ _ (by k_asm) (by k_asm) (by k_asm) N8 (by k_asm) (by first | exact rfl | assumption) (by ktr_room) (by ktr_units) ?_)); intro _ _ _ _ _; (try dsimp only); (try k_sweep))) | (((with_reducible show wpAny _ _ (call (Value.ref 135) [Value.ref _]) _ _ _); k_here; (with_reducible show wpAny _ _ (call (Value.ref 135) [Value.ref _]) _ _ _); (with_reducible rename News _ _ _ _ => N8); k_dflt ((refine' c_octets _ _ _ _ _ _ _ _ _ _ _ _ _ _ _ (by omega) (by omega) (by omega) (by omega) _ _ _ _ _ _ _ _ _ _ _ _ _ _ _ _ _ (by k_asm) (by k_asm) (by k_asm) N8 (by k_asm) (by first | exact rfl | assumption) (by ktr_room) (by ktr_units) ?_)); intro _ _ _ _ _; (try dsimp only); (try k_sweep))) | (((with_reducible show wpAny _ _ (call (Value.builtin "list.pop") [Value.ref _, Value.int _ _]) _ _ _); k_here; (with_reducible show wpAny _ _ (call (Value.builtin "list.pop") [Value.ref _, Value.int _ _]) _ _ _); k_dflt (refine' l_popAt (by k_asm) (by k_asm) (by k_upd) (by omega) (by with_reducible assumption) (by omega) ?_); intro _ _ N'; (try dsimp only [List.nil_append, List.cons_append] at N'); revert N'; intro _)) | (((with_reducible show wpAny _ _ (call (Value.builtin "str.encode") [Value.str (S _) _, Value.str _ _]) _ _ _); (refine call_encode ?h1 ?h2 ?h3 ?_); (case h1 => assumption); (case h2 => omega); (case h3 => omega); intro _ _)) | (((with_reducible show wpAny _ _ (getMethod (Value.str _ _) (PySem.Str.ofString "encode") _) _ _ _); refine meth_encode ?_)) | (((with_reducible show wpAny _ _ (call (Value.type _) [_]) _ _ _); first | (refine call_type_of (typeIs_bytes _ _ _) (by decide) ?_) | (refine call_type_of (typeIs_str _ _ _) (by decide) ?_) | (refine call_type_of (typeIs_bool _ _) (by decide) ?_) | (refine call_type_of (typeIs_int _ _ _) (by decide) ?_))) | walk_at "1 step"))
  · rename Fr _ _ _ _ => lF
    rename News _ _ _ _ => lN
    rename List.Pairwise _ _ => ho
    rename IntsAre _ _ => hi9
    rename (_ ∧ _ ∧ _ ∧ _ ∧ _ ∧ _ ∧ _ ∧ D1 < _ ∧ _) => hlt
    with_unfolding_all refine' seg9 w mean mg mb fa L cd h₀ _ Q E _ B X T hE ?hr1 oW oH oP vH vP tW nf hfg hW hH hP D1 dvs ds nd hI hl tr _ _ _ _ hi9 (in_PL (by assumption) ho (by simp)) hD1 ?hl1 (fr_kst lF ?hk1) ?hm1
    case hr1 => exact fun h9 tk9 m9 F9 => hret h9 tk9 m9 F9
    case hm1 =>
      refine List.forall_mem_cons.mpr ⟨lN _ (by k_mem), List.forall_mem_cons.mpr ⟨lN _ (by k_mem), List.forall_mem_cons.mpr ⟨lN _ (by k_mem), List.forall_mem_cons.mpr ⟨lN _ (by k_mem), List.forall_mem_cons.mpr ⟨lN _ (by k_mem), List.forall_mem_nil _⟩⟩⟩⟩⟩
    case hl1 => exact hlt.2.2.2.2.2.2.2.1
    case hk1 => kst_all
  · rename Fr _ _ _ _ => lF
    rename News _ _ _ _ => lN
    rename List.Pairwise _ _ => ho
    rename IntsAre _ _ => hi9
    rename (_ ∧ _ ∧ _ ∧ _ ∧ _ ∧ _ ∧ _ ∧ D1 < _ ∧ _) => hlt
    with_unfolding_all refine' seg9 w mean mg mb fa L cd h₀ _ Q E _ B X T hE ?hr2 oW oH oP vH vP tW nf hfg hW hH hP D1 dvs ds nd hI hl tr _ _ _ _ hi9 (in_PL (by assumption) ho (by simp)) hD1 ?hl2 (fr_kst lF ?hk2) ?hm2
    case hr2 => exact fun h9 tk9 m9 F9 => hret h9 tk9 m9 F9
    case hm2 =>
      refine List.forall_mem_cons.mpr ⟨lN _ (by k_mem), List.forall_mem_cons.mpr ⟨lN _ (by k_mem), List.forall_mem_cons.mpr ⟨lN _ (by k_mem), List.forall_mem_cons.mpr ⟨lN _ (by k_mem), List.forall_mem_cons.mpr ⟨lN _ (by k_mem), List.forall_mem_nil _⟩⟩⟩⟩⟩
    case hl2 => exact hlt.2.2.2.2.2.2.2.1
    case hk2 => kst_all
  · rename Fr _ _ _ _ => lF
    rename News _ _ _ _ => lN
    rename List.Pairwise _ _ => ho
    rename IntsAre _ _ => hi9
    rename (_ ∧ _ ∧ _ ∧ _ ∧ _ ∧ _ ∧ _ ∧ D1 < _ ∧ _) => hlt
    with_unfolding_all refine' seg9 w mean mg mb fa L cd h₀ _ Q E _ B X T hE ?hr3 oW oH oP vH vP tW nf hfg hW hH hP D1 dvs ds nd hI hl tr _ _ _ _ hi9 (in_PL (by assumption) ho (by simp)) hD1 ?hl3 (fr_kst lF ?hk3) ?hm3
    case hr3 => exact fun h9 tk9 m9 F9 => hret h9 tk9 m9 F9
    case hm3 =>
      refine List.forall_mem_cons.mpr ⟨lN _ (by k_mem), List.forall_mem_cons.mpr ⟨lN _ (by k_mem), List.forall_mem_cons.mpr ⟨lN _ (by k_mem), List.forall_mem_cons.mpr ⟨lN _ (by k_mem), List.forall_mem_cons.mpr ⟨lN _ (by k_mem), List.forall_mem_nil _⟩⟩⟩⟩⟩
    case hl3 => exact hlt.2.2.2.2.2.2.2.1
    case hk3 => kst_all
  · rename Fr _ _ _ _ => lF
    rename News _ _ _ _ => lN
    rename List.Pairwise _ _ => ho
    rename IntsAre _ _ => hi9
    rename (_ ∧ _ ∧ _ ∧ _ ∧ _ ∧ _ ∧ _ ∧ D1 < _ ∧ _) => hlt
    with_unfolding_all refine' seg9 w mean mg mb fa L cd h₀ _ Q E _ B X T hE ?hr4 oW oH oP vH vP tW nf hfg hW hH hP D1 dvs ds nd hI hl tr _ _ _ _ hi9 (in_PL (by assumption) ho (by simp)) hD1 ?hl4 (fr_kst lF ?hk4) ?hm4
    case hr4 => exact fun h9 tk9 m9 F9 => hret h9 tk9 m9 F9
    case hm4 =>
      refine List.forall_mem_cons.mpr ⟨lN _ (by k_mem), List.forall_mem_cons.mpr ⟨lN _ (by k_mem), List.forall_mem_cons.mpr ⟨lN _ (by k_mem), List.forall_mem_cons.mpr ⟨lN _ (by k_mem), List.forall_mem_cons.mpr ⟨lN _ (by k_mem), List.forall_mem_nil _⟩⟩⟩⟩⟩
    case hl4 => exact hlt.2.2.2.2.2.2.2.1
    case hk4 => kst_all






theorem seg4 (w : World) (mean : ExcName → Option Value) (mg mb : Str → Option Value) (fa L : Addr) (cd : Value) (h₀ : Heap) (s : Shared) (Q : Flow → Shared → Prop) (E : Value → Shared → Prop) (u : Str → Option Value)
    (B : Below callerA h₀ [] h₀) (X : (hd.heap_39 w.params).In h₀) (T : Top hd.view_39 loo mean mg mb h₀) (hE : PassesOwn (model PG w) (AL L fa cd) (envLaw L fa cd) E)
    (hret : ∀ h' tk' m', Fr h₀ L h' m' → Q (.ret (.bool true)) { s with heap := h', toks := tk' })(oW oH oP : Obj) (vW vH vP : Option Value) (hW : oW.data = .cell vW) (hH : oH.data = .cell vH) (hP : oP.data = .cell vP) (D1 F1 : Addr) (dvs vf : List Value) (ds nf : List Int) (nd cf : Nat) (hI : IntsAre dvs ds) (hl : ds.length = 15) (hIf : IntsAre vf nf) (hfg : Figs nf)
    (hD1 : @Ne Nat (L + 1 + 1 + 1) D1 ∧ @Ne Nat (L + 1 + 1 + 1 + 1) D1 ∧ @Ne Nat (L + 1 + 1 + 1 + 1 + 1) D1) (hF1 : @LT.lt Nat _ D1 F1 ∧ @LT.lt Nat _ (L + 1 + 1 + 1) F1 ∧ @LT.lt Nat _ (L + 1 + 1 + 1 + 1) F1 ∧ @LT.lt Nat _ (L + 1 + 1 + 1 + 1 + 1) F1)
    (F : Fr h₀ L s.heap (kstB u [(Str.ofString "figures", .ref F1), (Str.ofString "draws", .ref D1)]))
    (N : News h₀ L s.heap [(F1, listOf (List.toArray vf) cf), (D1, listOf (List.toArray dvs) nd), (L + 1 + 1 + 1, oW), (L + 1 + 1 + 1 + 1, oH), (L + 1 + 1 + 1 + 1 + 1, oP)]) :
    wpAny (model PG w) (AL L fa cd) (execs ((bodyAt 29).drop 4) (envLaw L fa cd)) Q E s := by
  with_unfolding_all show wpAny _ _ (execs (_ :: _) _) _ _ _
  dsimp only [kstB] at F
  have hfl := hfg.1
  have hfb := hfg.2.2
  obtain ⟨f0, t0, v1, n1, rfl, rfl, i1, l1⟩ := ints_cons hIf hfg.1
  obtain ⟨f1, t1, v2, n2, rfl, rfl, i2, l2⟩ := ints_cons i1 l1
  obtain ⟨f2, t2, v3, n3, rfl, rfl, i3, l3⟩ := ints_cons i2 l2
  obtain ⟨f3, t3, v4, n4, rfl, rfl, i4, l4⟩ := ints_cons i3 l3
  obtain ⟨f4, t4, v5, n5, rfl, rfl, i5, l5⟩ := ints_cons i4 l4
  obtain ⟨f5, t5, v6, n6, rfl, rfl, i6, l6⟩ := ints_cons i5 l5
  obtain ⟨f6, t6, v7, n7, rfl, rfl, i7, l7⟩ := ints_cons i6 l6
  obtain ⟨f7, t7, v8, n8, rfl, rfl, i8, l8⟩ := ints_cons i7 l7
  obtain ⟨f8, t8, v9, n9, rfl, rfl, i9, l9⟩ := ints_cons i8 l8
  obtain ⟨f9, t9, v10, n10, rfl, rfl, i10, l10⟩ := ints_cons i9 l9
  obtain ⟨f10, t10, v11, n11, rfl, rfl, i11, l11⟩ := ints_cons i10 l10
  obtain ⟨f11, t11, v12, n12, rfl, rfl, i12, l12⟩ := ints_cons i11 l11
  obtain ⟨rfl, rfl⟩ := ints_nil i12 l12
  clear i1 i2 i3 i4 i5 i6 i7 i8 i9 i10 i11 i12 l1 l2 l3 l4 l5 l6 l7 l8 l9 l10 l11 l12
  have hb := hfb
  simp only [List.forall_mem_cons, List.not_mem_nil, false_implies, implies_true, and_true] at hb
  obtain ⟨b0, b1, b2, b3, b4, b5, b6, b7, b8, b9, b10, b11⟩ := hb
  have hsl : ∀ c ∈ [f0, f1, f2, f3, f4, f5, f6, f7, f8, f9, f10, f11].map sig, c < 128 := by
    intro c hc
    obtain ⟨y, hy, rfl⟩ := List.mem_map.mp hc
    exact sig_ascii (hfb y hy)
  have hl1 : ([f0, f1, f2, f3, f4, f5, f6, f7, f8, f9, f10, f11].map sig).length = 12 := rfl
  repeat' ((fail_if_success (with_reducible show wpAny _ _ (PySem.execs [_, _, _, _, _, _, _, _, _] _) _ _ _)); (first | ((k_openite; (with_reducible show (if (_ != _) = true then _ else _)); refine ite_neg (by rw [bne_self_eq_false]; exact Bool.false_ne_true) ?_)) | (((with_reducible show wpAny _ _ (call (Value.builtin "bytes.decode") [Value.bytes (bA _) _, Value.str _ _]) _ _ _); refine call_decode2 (by assumption) (by omega) (by omega) ?_; intro _ _)) | (((with_reducible show wpAny _ _ (call (Value.ref 108) [Value.bytes _ _]) _ _ _); k_here; (with_reducible show wpAny _ _ (call (Value.ref 108) [Value.bytes _ _]) _ _ _); (with_reducible rename News _ _ _ _ => N8); k_dflt ((refine' c_row _ _ _ _ _ _ _ _ _ _ _ _ _ _ _ _ _ _ (by assumption) _ _ _ _ _ _ _ _ _ _ _ _ _ _ _ _ _ (by k_asm) (by k_asm) (by k_asm) N8 (by k_asm) (by first | exact rfl | assumption) (by ktr_room) (by ktr_units) ?_)); intro _ _ _ _ _; (try dsimp only); (try k_sweep))) | (((with_reducible show wpAny _ _ (call (Value.ref 128) [Value.ref _]) _ _ _); k_here; (with_reducible show wpAny _ _ (call (Value.ref 128) [Value.ref _]) _ _ _); (with_reducible rename News _ _ _ _ => N8); k_dflt ((refine' c_text2 _ _ _ _ _ _ _ _ _ (by assumption) (by assumption) (by assumption) (by k_mem) _ _ _ _ _ _ _ _ _ _ _ _ _ _ _ _ _ (by k_asm) (by k_asm) (by k_asm) N8 (by k_asm) (by first | exact rfl | assumption) (by ktr_room) (by ktr_units) ?_)); intro _ _ _ _ _; (try dsimp only); (try k_sweep))) | (((with_reducible show wpAny _ _ (call (Value.ref 135) [Value.ref _]) _ _ _); k_here; (with_reducible show wpAny _ _ (call (Value.ref 135) [Value.ref _]) _ _ _); (with_reducible rename News _ _ _ _ => N8); k_dflt ((refine' c_octets _ _ _ _ _ _ _ _ _ _ _ _ _ _ _ (by omega) (by omega) (by omega) (by omega) _ _ _ _ _ _ _ _ _ _ _ _ _ _ _ _ _ (by k_asm) (by k_asm) (by k_asm) N8 (by k_asm) (by first | exact rfl | assumption) (by ktr_room) (by ktr_units) ?_)); intro _ _ _ _ _; (try dsimp only); (try k_sweep))) | (((with_reducible show wpAny _ _ (call (Value.builtin "list.pop") [Value.ref _, Value.int _ _]) _ _ _); k_here; (with_reducible show wpAny _ _ (call (Value.builtin "list.pop") [Value.ref _, Value.int _ _]) _ _ _); k_dflt (refine' l_popAt (by k_asm) (by k_asm) (by k_upd) (by omega) (by with_reducible assumption) (by omega) ?_); intro _ _ N'; (try dsimp only [List.nil_append, List.cons_append] at N'); revert N'; intro _)) | (((with_reducible show wpAny _ _ (call (Value.builtin "str.encode") [Value.str (S _) _, Value.str _ _]) _ _ _); (refine call_encode ?h1 ?h2 ?h3 ?_); (case h1 => assumption); (case h2 => omega); (case h3 => omega); intro _ _)) | (((with_reducible show wpAny _ _ (getMethod (Value.str _ _) (PySem.Str.ofString "encode") _) _ _ _); refine meth_encode ?_)) | (((with_reducible show wpAny _ _ (call (Value.type _) [_]) _ _ _); first | (refine call_type_of (typeIs_bytes _ _ _) (by decide) ?_) | (refine call_type_of (typeIs_str _ _ _) (by decide) ?_) | (refine call_type_of (typeIs_bool _ _) (by decide) ?_) | (refine call_type_of (typeIs_int _ _ _) (by decide) ?_))) | walk_at "1 step"))
  rename Fr _ _ _ _ => lF
  rename News _ _ _ _ => lN
  have e : List.toArray (Array.toList (bA (octL f0 f1 f2 f3)) ++ Array.toList (bA (octL f4 f5 f6 f7)) ++ Array.toList (bA (octL f8 f9 f10 f11))) = bA (rowOf [f0, f1, f2, f3, f4, f5, f6, f7, f8, f9, f10, f11]) := by
    simp [rowOf, bA]
  rw [e] at lF
  with_unfolding_all refine' seg8 w mean mg mb fa L cd h₀ _ Q E _ B X T hE ?hr _ oH oP vH vP _ [f0, f1, f2, f3, f4, f5, f6, f7, f8, f9, f10, f11] hfg (by assumption) hH hP D1 dvs ds nd hI hl _ hD1 (fr_kst lF ?hk9) (fun p hp => lN p ?hm9)
  case hr => exact fun h9 tk9 m9 F9 => hret h9 tk9 m9 F9
  case hk9 => kst_all
  case hm9 => (revert p hp; lcg_sub)
structure SK where
  vk : List Value
  nk : List Int
  ck : Nat
  vf : List Value
  nf : List Int
  cf : Nat
theorem seg3 (w : World) (mean : ExcName → Option Value) (mg mb : Str → Option Value) (fa L : Addr) (cd : Value) (h₀ : Heap) (s : Shared) (Q : Flow → Shared → Prop) (E : Value → Shared → Prop) (u : Str → Option Value)
    (B : Below callerA h₀ [] h₀) (X : (hd.heap_39 w.params).In h₀) (T : Top hd.view_39 loo mean mg mb h₀) (hE : PassesOwn (model PG w) (AL L fa cd) (envLaw L fa cd) E)
    (hret : ∀ h' tk' m', Fr h₀ L h' m' → Q (.ret (.bool true)) { s with heap := h', toks := tk' })(oW oH oP : Obj) (vW vH vP : Option Value) (hW : oW.data = .cell vW) (hH : oH.data = .cell vH) (hP : oP.data = .cell vP) (D1 K1 F1 : Addr) (dvs vk : List Value) (ds nk : List Int) (nd ck : Nat) (hI : IntsAre dvs ds) (hl : ds.length = 15) (hIk : IntsAre vk nk) (hnk : PK 0 nk [])
    (hD1 : @Ne Nat (L + 1 + 1 + 1) D1 ∧ @Ne Nat (L + 1 + 1 + 1 + 1) D1 ∧ @Ne Nat (L + 1 + 1 + 1 + 1 + 1) D1) (hK1 : @Ne Nat D1 K1 ∧ @Ne Nat (L + 1 + 1 + 1) K1 ∧ @Ne Nat (L + 1 + 1 + 1 + 1) K1 ∧ @Ne Nat (L + 1 + 1 + 1 + 1 + 1) K1) (hF1 : @LT.lt Nat _ K1 F1 ∧ @LT.lt Nat _ D1 F1 ∧ @LT.lt Nat _ (L + 1 + 1 + 1) F1 ∧ @LT.lt Nat _ (L + 1 + 1 + 1 + 1) F1 ∧ @LT.lt Nat _ (L + 1 + 1 + 1 + 1 + 1) F1)
    (F : Fr h₀ L s.heap (kstB u [(Str.ofString "kinds", .ref K1), (Str.ofString "figures", .ref F1), (Str.ofString "draws", .ref D1)]))
    (N : News h₀ L s.heap [(F1, listOf (List.toArray []) 0), (K1, listOf (List.toArray vk) ck), (D1, listOf (List.toArray dvs) nd), (L + 1 + 1 + 1, oW), (L + 1 + 1 + 1 + 1, oH), (L + 1 + 1 + 1 + 1 + 1, oP)]) :
    wpAny (model PG w) (AL L fa cd) (execs ((bodyAt 29).drop 3) (envLaw L fa cd)) Q E s := by
  with_unfolding_all show wpAny _ _ (execs (_ :: _) _) _ _ _
  dsimp only [kstB] at F
  repeat' ((fail_if_success (with_reducible show wpAny _ _ (PySem.exec (Stmt.For _ _ _ _ _) _) _ _ _)); (first | ((k_openite; (with_reducible show (if (_ != _) = true then _ else _)); refine ite_neg (by rw [bne_self_eq_false]; exact Bool.false_ne_true) ?_)) | (((with_reducible show wpAny _ _ (call (Value.builtin "bytes.decode") [Value.bytes (bA _) _, Value.str _ _]) _ _ _); refine call_decode2 (by assumption) (by omega) (by omega) ?_; intro _ _)) | (((with_reducible show wpAny _ _ (call (Value.ref 108) [Value.bytes _ _]) _ _ _); k_here; (with_reducible show wpAny _ _ (call (Value.ref 108) [Value.bytes _ _]) _ _ _); (with_reducible rename News _ _ _ _ => N8); k_dflt ((refine' c_row _ _ _ _ _ _ _ _ _ _ _ _ _ _ _ _ _ _ (by assumption) _ _ _ _ _ _ _ _ _ _ _ _ _ _ _ _ _ (by k_asm) (by k_asm) (by k_asm) N8 (by k_asm) (by first | exact rfl | assumption) (by ktr_room) (by ktr_units) ?_)); intro _ _ _ _ _; (try dsimp only); (try k_sweep))) | (((with_reducible show wpAny _ _ (call (Value.ref 128) [Value.ref _]) _ _ _); k_here; (with_reducible show wpAny _ _ (call (Value.ref 128) [Value.ref _]) _ _ _); (with_reducible rename News _ _ _ _ => N8); k_dflt ((refine' c_text2 _ _ _ _ _ _ _ _ _ (by assumption) (by assumption) (by assumption) (by k_mem) _ _ _ _ _ _ _ _ _ _ _ _ _ _ _ _ _ (by k_asm) (by k_asm) (by k_asm) N8 (by k_asm) (by first | exact rfl | assumption) (by ktr_room) (by ktr_units) ?_)); intro _ _ _ _ _; (try dsimp only); (try k_sweep))) | (((with_reducible show wpAny _ _ (call (Value.ref 135) [Value.ref _]) _ _ _); k_here; (with_reducible show wpAny _ _ (call (Value.ref 135) [Value.ref _]) _ _ _); (with_reducible rename News _ _ _ _ => N8); k_dflt ((refine' c_octets _ _ _ _ _ _ _ _ _ _ _ _ _ _ _ (by omega) (by omega) (by omega) (by omega) _ _ _ _ _ _ _ _ _ _ _ _ _ _ _ _ _ (by k_asm) (by k_asm) (by k_asm) N8 (by k_asm) (by first | exact rfl | assumption) (by ktr_room) (by ktr_units) ?_)); intro _ _ _ _ _; (try dsimp only); (try k_sweep))) | (((with_reducible show wpAny _ _ (call (Value.builtin "list.pop") [Value.ref _, Value.int _ _]) _ _ _); k_here; (with_reducible show wpAny _ _ (call (Value.builtin "list.pop") [Value.ref _, Value.int _ _]) _ _ _); k_dflt (refine' l_popAt (by k_asm) (by k_asm) (by k_upd) (by omega) (by with_reducible assumption) (by omega) ?_); intro _ _ N'; (try dsimp only [List.nil_append, List.cons_append] at N'); revert N'; intro _)) | (((with_reducible show wpAny _ _ (call (Value.builtin "str.encode") [Value.str (S _) _, Value.str _ _]) _ _ _); (refine call_encode ?h1 ?h2 ?h3 ?_); (case h1 => assumption); (case h2 => omega); (case h3 => omega); intro _ _)) | (((with_reducible show wpAny _ _ (getMethod (Value.str _ _) (PySem.Str.ofString "encode") _) _ _ _); refine meth_encode ?_)) | (((with_reducible show wpAny _ _ (call (Value.type _) [_]) _ _ _); first | (refine call_type_of (typeIs_bytes _ _ _) (by decide) ?_) | (refine call_type_of (typeIs_str _ _ _) (by decide) ?_) | (refine call_type_of (typeIs_bool _ _) (by decide) ?_) | (refine call_type_of (typeIs_int _ _ _) (by decide) ?_))) | walk_at "1 step"))
  rename Fr _ _ _ _ => lF
  rename News _ _ _ _ => lN
  k_dflt (refine' For_invVF lF ?k1 ?k2 ?_)
  case k1 => exact rfl
  case k2 => exact rfl
  repeat' ((fail_if_success (with_reducible show wpAny _ _ (pyIter _) _ _ _)); (first | ((k_openite; (with_reducible show (if (_ != _) = true then _ else _)); refine ite_neg (by rw [bne_self_eq_false]; exact Bool.false_ne_true) ?_)) | (((with_reducible show wpAny _ _ (call (Value.builtin "bytes.decode") [Value.bytes (bA _) _, Value.str _ _]) _ _ _); refine call_decode2 (by assumption) (by omega) (by omega) ?_; intro _ _)) | (((with_reducible show wpAny _ _ (call (Value.ref 108) [Value.bytes _ _]) _ _ _); k_here; (with_reducible show wpAny _ _ (call (Value.ref 108) [Value.bytes _ _]) _ _ _); (with_reducible rename News _ _ _ _ => N8); k_dflt ((refine' c_row _ _ _ _ _ _ _ _ _ _ _ _ _ _ _ _ _ _ (by assumption) _ _ _ _ _ _ _ _ _ _ _ _ _ _ _ _ _ (by k_asm) (by k_asm) (by k_asm) N8 (by k_asm) (by first | exact rfl | assumption) (by ktr_room) (by ktr_units) ?_)); intro _ _ _ _ _; (try dsimp only); (try k_sweep))) | (((with_reducible show wpAny _ _ (call (Value.ref 128) [Value.ref _]) _ _ _); k_here; (with_reducible show wpAny _ _ (call (Value.ref 128) [Value.ref _]) _ _ _); (with_reducible rename News _ _ _ _ => N8); k_dflt ((refine' c_text2 _ _ _ _ _ _ _ _ _ (by assumption) (by assumption) (by assumption) (by k_mem) _ _ _ _ _ _ _ _ _ _ _ _ _ _ _ _ _ (by k_asm) (by k_asm) (by k_asm) N8 (by k_asm) (by first | exact rfl | assumption) (by ktr_room) (by ktr_units) ?_)); intro _ _ _ _ _; (try dsimp only); (try k_sweep))) | (((with_reducible show wpAny _ _ (call (Value.ref 135) [Value.ref _]) _ _ _); k_here; (with_reducible show wpAny _ _ (call (Value.ref 135) [Value.ref _]) _ _ _); (with_reducible rename News _ _ _ _ => N8); k_dflt ((refine' c_octets _ _ _ _ _ _ _ _ _ _ _ _ _ _ _ (by omega) (by omega) (by omega) (by omega) _ _ _ _ _ _ _ _ _ _ _ _ _ _ _ _ _ (by k_asm) (by k_asm) (by k_asm) N8 (by k_asm) (by first | exact rfl | assumption) (by ktr_room) (by ktr_units) ?_)); intro _ _ _ _ _; (try dsimp only); (try k_sweep))) | (((with_reducible show wpAny _ _ (call (Value.builtin "list.pop") [Value.ref _, Value.int _ _]) _ _ _); k_here; (with_reducible show wpAny _ _ (call (Value.builtin "list.pop") [Value.ref _, Value.int _ _]) _ _ _); k_dflt (refine' l_popAt (by k_asm) (by k_asm) (by k_upd) (by omega) (by with_reducible assumption) (by omega) ?_); intro _ _ N'; (try dsimp only [List.nil_append, List.cons_append] at N'); revert N'; intro _)) | (((with_reducible show wpAny _ _ (call (Value.builtin "str.encode") [Value.str (S _) _, Value.str _ _]) _ _ _); (refine call_encode ?h1 ?h2 ?h3 ?_); (case h1 => assumption); (case h2 => omega); (case h3 => omega); intro _ _)) | (((with_reducible show wpAny _ _ (getMethod (Value.str _ _) (PySem.Str.ofString "encode") _) _ _ _); refine meth_encode ?_)) | (((with_reducible show wpAny _ _ (call (Value.type _) [_]) _ _ _); first | (refine call_type_of (typeIs_bytes _ _ _) (by decide) ?_) | (refine call_type_of (typeIs_str _ _ _) (by decide) ?_) | (refine call_type_of (typeIs_bool _ _) (by decide) ?_) | (refine call_type_of (typeIs_int _ _ _) (by decide) ?_))) | walk_at "1 step"))
  rename Fr _ _ _ _ => lF
  rename News _ _ _ _ => lN
  rename (_ ∧ _ ∧ _ ∧ _ ∧ _ ∧ _) => hlt
  rename_i D' ws' _ _ _ _
  refine' flist (σ := SK) (fun c => (D', listOf (List.toArray ws') 0) :: (F1, listOf (List.toArray c.vf) c.cf) :: (K1, listOf (List.toArray c.vk) c.ck) :: [(D1, listOf (List.toArray dvs) nd), (L + 1 + 1 + 1, oW), (L + 1 + 1 + 1 + 1, oH), (L + 1 + 1 + 1 + 1 + 1, oP)]) (fun c => [(Str.ofString "kinds", Value.ref K1), (Str.ofString "figures", Value.ref F1), (Str.ofString "draws", Value.ref D1)])
    (fun i c => IntsAre c.vk c.nk ∧ IntsAre c.vf c.nf ∧ PK i c.nk c.nf)
    ⟨vk, nk, ck, [], [], 0⟩ (fun c => List.Mem.head _) (by assumption) rfl lF lN ?hk ?hp ?ht ?hd
  case hk => kst_all
  case hp => exact ⟨hIk, .nil, hnk⟩
  case hd =>
    clear lF lN
    rintro ⟨vk', nk', ck', vf, nf, cf⟩ u' h' tk' ⟨hI1, hI2, hPK⟩ F' N'
    dsimp only [kstB] at F' N' hI1 hI2 hPK
    have h12 : (List.take 12 ds).length = 12 := by rw [List.length_take, hl]; rfl
    rw [h12] at hPK
    refine' seg4 w mean mg mb fa L cd h₀ _ Q E _ B X T hE ?hr oW oH oP vW vH vP hW hH hP D1 F1 dvs vf ds nf nd cf hI hl hI2 (PK_figs hPK) hD1 hF1.2 (fr_kst F' ?hk9) (fun p hp => N' p ?hm9)
    case hr => exact fun h9 tk9 m9 F9 => hret h9 tk9 m9 F9
    case hk9 => kst_all
    case hm9 => (simp only [List.mem_cons, List.not_mem_nil, or_false] at hp ⊢; rcases hp with h | h | h | h | h <;> simp [h])
  case ht =>
    clear lF lN
    rintro ⟨vk', nk', ck', vf, nf, cf⟩ i n t u' h' tk' own hi hoff ⟨hI1, hI2, hPK⟩ F' N'
    dsimp only [kstB] at F' hI1 hI2 hPK ⊢
    simp only [List.cons_append, List.nil_append] at N'
    have hi12 : i < 12 := by
      have := (List.getElem?_eq_some_iff.mp hi).1
      rw [List.length_take, hl] at this
      omega
    have hkl := hI1.length
    have hfl := hI2.length
    have hkn := hPK.1
    have hfn := hPK.2.1
    have hp1 : 0 ≤ n.fmod (nk'.length : Int) := by rw [Int.fmod_eq_emod_of_nonneg _ (by omega)]; exact Int.emod_nonneg _ (by omega)
    have hp2 : n.fmod (nk'.length : Int) < nk'.length := by rw [Int.fmod_eq_emod_of_nonneg _ (by omega)]; exact Int.emod_lt_of_pos _ (by omega)
    obtain ⟨k, hk⟩ : ∃ k, nk'[(n.fmod (nk'.length : Int)).toNat]? = some k := ⟨nk'[(n.fmod (nk'.length : Int)).toNat], by simp⟩
    obtain ⟨tk9, hv⟩ := hI1.get _ _ hk
    have hkb := hPK.2.2.2.1 k (List.mem_of_getElem? hk)
    have own1 : ∀ p ∈ own, p.1 ≠ F1 := hoff.ne (.tail _ (.head _))
    have own2 : ∀ p ∈ own, p.1 ≠ K1 := hoff.ne (.tail _ (.tail _ (.head _)))
    (try k_fold)
    repeat' (first | ((k_openite; (with_reducible show (if (_ != _) = true then _ else _)); refine ite_neg (by rw [bne_self_eq_false]; exact Bool.false_ne_true) ?_)) | (((with_reducible show wpAny _ _ (call (Value.builtin "bytes.decode") [Value.bytes (bA _) _, Value.str _ _]) _ _ _); refine call_decode2 (by assumption) (by omega) (by omega) ?_; intro _ _)) | (((with_reducible show wpAny _ _ (call (Value.ref 108) [Value.bytes _ _]) _ _ _); k_here; (with_reducible show wpAny _ _ (call (Value.ref 108) [Value.bytes _ _]) _ _ _); (with_reducible rename News _ _ _ _ => N8); k_dflt ((refine' c_row _ _ _ _ _ _ _ _ _ _ _ _ _ _ _ _ _ _ (by assumption) _ _ _ _ _ _ _ _ _ _ _ _ _ _ _ _ _ (by k_asm) (by k_asm) (by k_asm) N8 (by k_asm) (by first | exact rfl | assumption) (by ktr_room) (by ktr_units) ?_)); intro _ _ _ _ _; (try dsimp only); (try k_sweep))) | (((with_reducible show wpAny _ _ (call (Value.ref 128) [Value.ref _]) _ _ _); k_here; (with_reducible show wpAny _ _ (call (Value.ref 128) [Value.ref _]) _ _ _); (with_reducible rename News _ _ _ _ => N8); k_dflt ((refine' c_text2 _ _ _ _ _ _ _ _ _ (by assumption) (by assumption) (by assumption) (by k_mem) _ _ _ _ _ _ _ _ _ _ _ _ _ _ _ _ _ (by k_asm) (by k_asm) (by k_asm) N8 (by k_asm) (by first | exact rfl | assumption) (by ktr_room) (by ktr_units) ?_)); intro _ _ _ _ _; (try dsimp only); (try k_sweep))) | (((with_reducible show wpAny _ _ (call (Value.ref 135) [Value.ref _]) _ _ _); k_here; (with_reducible show wpAny _ _ (call (Value.ref 135) [Value.ref _]) _ _ _); (with_reducible rename News _ _ _ _ => N8); k_dflt ((refine' c_octets _ _ _ _ _ _ _ _ _ _ _ _ _ _ _ (by omega) (by omega) (by omega) (by omega) _ _ _ _ _ _ _ _ _ _ _ _ _ _ _ _ _ (by k_asm) (by k_asm) (by k_asm) N8 (by k_asm) (by first | exact rfl | assumption) (by ktr_room) (by ktr_units) ?_)); intro _ _ _ _ _; (try dsimp only); (try k_sweep))) | (((with_reducible show wpAny _ _ (call (Value.builtin "list.pop") [Value.ref _, Value.int _ _]) _ _ _); k_here; (with_reducible show wpAny _ _ (call (Value.builtin "list.pop") [Value.ref _, Value.int _ _]) _ _ _); k_dflt (refine' l_popAt (by k_asm) (by k_asm) (by k_upd) (by omega) (by with_reducible assumption) (by omega) ?_); intro _ _ N'; (try dsimp only [List.nil_append, List.cons_append] at N'); revert N'; intro _)) | (((with_reducible show wpAny _ _ (call (Value.builtin "str.encode") [Value.str (S _) _, Value.str _ _]) _ _ _); (refine call_encode ?h1 ?h2 ?h3 ?_); (case h1 => assumption); (case h2 => omega); (case h3 => omega); intro _ _)) | (((with_reducible show wpAny _ _ (getMethod (Value.str _ _) (PySem.Str.ofString "encode") _) _ _ _); refine meth_encode ?_)) | (((with_reducible show wpAny _ _ (call (Value.type _) [_]) _ _ _); first | (refine call_type_of (typeIs_bytes _ _ _) (by decide) ?_) | (refine call_type_of (typeIs_str _ _ _) (by decide) ?_) | (refine call_type_of (typeIs_bool _ _) (by decide) ?_) | (refine call_type_of (typeIs_int _ _ _) (by decide) ?_))) | walk_at "1 step")
    · rename Fr _ _ _ _ => lF
      rename News _ _ _ _ => lN
      simp only [List.push_toArray] at lN
      refine' FEnd.mk ⟨_, nk'.eraseIdx (n.fmod (nk'.length : Int)).toNat, _, _, nf ++ [k + 26], _⟩ lF lN ?n51 ?o51 rfl ?k51 ⟨ints_erase hI1 _, ints_app hI2 (.cons _ _ .nil), PK_step hPK hk (.inl rfl)⟩
      case n51 => (dsimp only; lcg_sub)
      case o51 => exact fun p hp => .tail _ (.tail _ (.tail _ (.tail _ (.tail _ (.tail _ (.tail _ hp))))))
      case k51 => kst_all
    · rename Fr _ _ _ _ => lF
      rename News _ _ _ _ => lN
      simp only [List.push_toArray] at lN
      refine' FEnd.mk ⟨_, nk'.eraseIdx (n.fmod (nk'.length : Int)).toNat, _, _, nf ++ [k + 26], _⟩ lF lN ?n52 ?o52 rfl ?k52 ⟨ints_erase hI1 _, ints_app hI2 (.cons _ _ .nil), PK_step hPK hk (.inl rfl)⟩
      case n52 => (dsimp only; lcg_sub)
      case o52 => exact fun p hp => .tail _ (.tail _ (.tail _ (.tail _ (.tail _ (.tail _ (.tail _ hp))))))
      case k52 => kst_all
    · rename Fr _ _ _ _ => lF
      rename News _ _ _ _ => lN
      simp only [List.push_toArray] at lN
      refine' FEnd.mk ⟨_, nk'.eraseIdx (n.fmod (nk'.length : Int)).toNat, _, _, nf ++ [k], _⟩ lF lN ?n53 ?o53 rfl ?k53 ⟨ints_erase hI1 _, ints_app hI2 (.cons _ _ .nil), PK_step hPK hk (.inr ⟨rfl, by omega⟩)⟩
      case n53 => (dsimp only; lcg_sub)
      case o53 => exact fun p hp => .tail _ (.tail _ (.tail _ (.tail _ (.tail _ (.tail _ (.tail _ hp))))))
      case k53 => kst_all
end
section
theorem law_holds : PySem.Challenge.rw_qw0006_01.Holds := by
  refine hd rfl rfl rfl ?_
  k_fill
  intro w s₀ s₁ mg mb G Y fa o pm cd doc dV kV ho hd hcd hD hmg hg args vals as hpre hlay hrd hwl hlo
  have KX := kIn_of Y
  have X := (Ground.X G).1
  have V := (Ground.X G).2
  have GL := glob_more (Ground.glob G (by as_aux_lemma => decide +kernel) (by as_aux_lemma => decide +kernel)) V
  refine Ground.open G ?_
  intro T B D TE TW
  try (refine guard_noD D (by decide +kernel) ?_; clear D)
  obtain ⟨_, _, M⟩ := bmod_of_top T
  have TA := at_of_top T
  try (obtain ⟨_, _, he, B0⟩ := based_of_top T rfl hmg ho hd; have he' : cd = _ := he; subst he'; clear he)
  clear hmg
  wrow_args hpre hlay hrd hwl hlo
  first | refine callC_kw (enter_call ?_) | refine enter_call ?_
  w_top on
  try refine codeAny_mono ?_ (fun _ _ g => GoodW.toG g)
  have K0 := below_caller (Top.heap T)
  w_call any ho hd hcd hD T F
  clear hd TA
  k_drop
  all_goals try k_fold
  repeat' ((fail_if_success (with_reducible show wpAny _ _ (PySem.execs [_, _, _, _, _, _, _, _, _, _, _, _, _, _] _) _ _ _)); (first | (((with_reducible show wpAny _ _ (call (Value.builtin "sum") [Value.ref _]) _ _ _); k_here; (with_reducible show wpAny _ _ (call (Value.builtin "sum") [Value.ref _]) _ _ _); k_dflt (refine' sum_pick rfl (by k_asm) (by k_asm) (by is_list) (by assumption) ?_); intro _ _ _ _ _)) | walk_at "1 step"))
  rename Fr _ _ _ _ => lF
  rename News _ _ _ _ => lN
  rename IntsAre _ (List.map _ (rangeKs _ _)) => hD9
  rename IntsAre _ (List.map _ (rangeInts _ _ _)) => hK9
  with_unfolding_all refine' seg3 _ _ _ _ _ _ _ _ _ _ _ _ (by assumption) (by assumption) (by assumption) ?hE ?hr _ _ _ _ _ _ ?hW ?hH ?hP _ _ _ _ _ _ _ _ _ hD9 ?hl hK9 ?hp ?h1 ?h2 ?h3 (fr_kst lF ?hk) ?hm
  case hk => kst_all
  case hm => (repeat (refine List.forall_mem_cons.mpr ⟨lN _ (by k_mem), ?_⟩)); exact List.forall_mem_nil _
  case hW => assumption
  case hH => assumption
  case hP => assumption
  case hl => (rw [List.length_map, rangeKs_length]; rfl)
  case hp => exact ⟨by decide +kernel, rfl, by decide +kernel, by decide +kernel, by simp⟩
  case h1 => (refine ⟨?_, ?_, ?_⟩ <;> k_ne)
  case h2 => (refine ⟨?_, ?_, ?_, ?_⟩ <;> k_ne)
  case h3 => (refine ⟨?_, ?_, ?_, ?_, ?_⟩ <;> (refine ltN ?_; omega))
  case hE => passes_own
  case hr =>
    intro h9 tk9 m9 F9
    clear lF lN
    repeat' (first | (((with_reducible show wpAny _ _ (call (Value.builtin "sum") [Value.ref _]) _ _ _); k_here; (with_reducible show wpAny _ _ (call (Value.builtin "sum") [Value.ref _]) _ _ _); k_dflt (refine' sum_pick rfl (by k_asm) (by k_asm) (by is_list) (by assumption) ?_); intro _ _ _ _ _)) | walk_at "1 step")
end
end Mine
theorem PySem.Challenge.cw_qw0006_01_holds : PySem.Challenge.rw_qw0006_01.Holds := by
  exact Mine.law_holds
