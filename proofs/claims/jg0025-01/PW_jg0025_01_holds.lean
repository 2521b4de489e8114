import PyProof.Rows.All
import Wide.All
import OpenK.AllK
import Wide.FinOn
import KE.KFromBytes
import Wide.RegSB
import Wide.BytesRules
import Lean
import PySem.Challenge.RW_jg0025_01
set_option Elab.async false
section
open PySem PySem.W PyProof.Rows
set_option Elab.async false
namespace Mine
set_option maxRecDepth 100000
set_option maxHeartbeats 8000000

noncomputable def fnOne : Stmt → Option (Arguments × List Stmt × Scope)
  | .FunctionDef _ a b _ _ _ s _ _ _ => some (a, b, s)
  | _ => none
noncomputable def fnsOf : Stmt → List (Arguments × List Stmt × Scope)
  | .FunctionDef _ a b _ _ _ s _ _ _ => [(a, b, s)]
  | .ClassDef _ _ _ body _ _ _ _ _ _ _ => body.filterMap fnOne
  | _ => []
noncomputable def allFns : List (Arguments × List Stmt × Scope) := PySem.Challenge.pw_jg0025_01.main.body.flatMap fnsOf
noncomputable def hd.heap_39 : Params → Frag :=
  (fun (a0 : Arguments) (b0 : List Stmt) (s0 : Scope) (a1 : Arguments) (b1 : List Stmt) (s1 : Scope) (a2 : Arguments) (b2 : List Stmt) (s2 : Scope) (a3 : Arguments) (b3 : List Stmt) (s3 : Scope) (a4 : Arguments) (b4 : List Stmt) (s4 : Scope) (a5 : Arguments) (b5 : List Stmt) (s5 : Scope) (a6 : Arguments) (b6 : List Stmt) (s6 : Scope) (a7 : Arguments) (b7 : List Stmt) (s7 : Scope) (a8 : Arguments) (b8 : List Stmt) (s8 : Scope) (a9 : Arguments) (b9 : List Stmt) (s9 : Scope) (a10 : Arguments) (b10 : List Stmt) (s10 : Scope) (a11 : Arguments) (b11 : List Stmt) (s11 : Scope) (a12 : Arguments) (b12 : List Stmt) (s12 : Scope) (a13 : Arguments) (b13 : List Stmt) (s13 : Scope) (a14 : Arguments) (b14 : List Stmt) (s14 : Scope) (a15 : Arguments) (b15 : List Stmt) (s15 : Scope) (a16 : Arguments) (b16 : List Stmt) (s16 : Scope) (_ : allFns = [(a0, b0, s0), (a1, b1, s1), (a2, b2, s2), (a3, b3, s3), (a4, b4, s4), (a5, b5, s5), (a6, b6, s6), (a7, b7, s7), (a8, b8, s8), (a9, b9, s9), (a10, b10, s10), (a11, b11, s11), (a12, b12, s12), (a13, b13, s13), (a14, b14, s14), (a15, b15, s15), (a16, b16, s16)]) (P : Params) => ((((nat_lit 2), (Obj.mk Value.none none (Data.dict (List.toArray []) 0) (List.toArray []))) ::
    ((nat_lit 3), (Obj.mk (Value.type "dict") none (Data.dict (List.toArray [(DictEntry.mk (PyData.keyHash P (Str.ofString "__name__")) (Value.str (Str.ofString "__name__") 165) (Value.str (Str.ofString "law_jg0025_01") 393)), (DictEntry.mk (PyData.keyHash P (Str.ofString "__doc__")) (Value.str (Str.ofString "__doc__") 166) Value.none), (DictEntry.mk (PyData.keyHash P (Str.ofString "__package__")) (Value.str (Str.ofString "__package__") 167) Value.none), (DictEntry.mk (PyData.keyHash P (Str.ofString "__loader__")) (Value.str (Str.ofString "__loader__") 168) (Value.builtin "__main__.__loader__#\x6fpaque")), (DictEntry.mk (PyData.keyHash P (Str.ofString "__spec__")) (Value.str (Str.ofString "__spec__") 169) Value.none), (DictEntry.mk (PyData.keyHash P (Str.ofString "__annotations__")) (Value.str (Str.ofString "__annotations__") 170) (Value.ref 6)), (DictEntry.mk (PyData.keyHash P (Str.ofString "__builtins__")) (Value.str (Str.ofString "__builtins__") 171) (Value.ref 4)), (DictEntry.mk (PyData.keyHash P (Str.ofString "__file__")) (Value.str (Str.ofString "__file__") 173) (Value.str (Str.ofString "/claim/cut.py") 172)), (DictEntry.mk (PyData.keyHash P (Str.ofString "__cached__")) (Value.str (Str.ofString "__cached__") 174) Value.none), (DictEntry.mk (PyData.keyHash P (Str.ofString "BytesIO")) (Value.str (Str.ofString "BytesIO") 243) (Value.ref 53)), (DictEntry.mk (PyData.keyHash P (Str.ofString "MAX_LITERAL_WORDS")) (Value.str (Str.ofString "MAX_LITERAL_WORDS") 245) (Value.int 2147483647 244)), (DictEntry.mk (PyData.keyHash P (Str.ofString "_encode_ewah_words")) (Value.str (Str.ofString "_encode_ewah_words") 259) (Value.ref 64)), (DictEntry.mk (PyData.keyHash P (Str.ofString "EWAHBitmap")) (Value.str (Str.ofString "EWAHBitmap") 392) (Value.ref 145)), (DictEntry.mk (PyData.keyHash P (Str.ofString "_law_octets")) (Value.str (Str.ofString "_law_octets") 411) (Value.ref 156)), (DictEntry.mk (PyData.keyHash P (Str.ofString "law")) (Value.str (Str.ofString "law") 417) (Value.ref 161))]) 15) (List.toArray []))) ::
    ((nat_lit 22), (Obj.mk (Value.type "tuple") none (Data.seq (List.toArray [(Value.bytes (List.toArray []) 201)]) 0) (List.toArray []))) ::
    ((nat_lit 23), (Obj.mk (Value.type "tuple") none (Data.seq (List.toArray []) 0) (List.toArray []))) ::
    ((nat_lit 25), (Obj.mk (Value.type "tuple") none (Data.seq (List.toArray [(Value.str (Str.ofString "self") 205), (Value.str (Str.ofString "data") 206)]) 0) (List.toArray []))) ::
    ((nat_lit 26), (Obj.mk (Value.type "tuple") none (Data.seq (List.toArray []) 0) (List.toArray []))) ::
    ((nat_lit 28), (Obj.mk (Value.type "code") none (Data.fields (List.toArray [(Value.str (Str.ofString "__init__") 202), (Value.str (Str.ofString "BytesIO.__init__") 203), (Value.str (Str.ofString "/claim/cut.py") 204), (Value.int 4 0), (Value.int 2 0), (Value.int 0 0), (Value.int 0 0), (Value.int 3 0), (Value.ref 23), (Value.bool Bool.true), (Value.int 181 0), (Value.ref 24), Value.none, (Value.ref 25), (Value.ref 26), (Value.ref 27), (Value.int 207 0), (Value.int 4 0), (Value.str (Str.ofString "/claim/cut.py") 208)])) (List.toArray []))) ::
    ((nat_lit 29), (Obj.mk (Value.type "function") none (Data.func (FuncData.mk (Str.ofString "__init__") (Str.ofString "BytesIO.__init__") a0 (FuncBody.stmts b0) s0 3 [] (Value.ref 22) Value.none Value.none (Value.str (Str.ofString "dulwich.bitmap") 187) none (Value.ref 28) Value.none 0)) (List.toArray []))) ::
    ((nat_lit 30), (Obj.mk (Value.type "tuple") none (Data.seq (List.toArray []) 0) (List.toArray []))) ::
    ((nat_lit 32), (Obj.mk (Value.type "tuple") none (Data.seq (List.toArray [(Value.str (Str.ofString "self") 213), (Value.str (Str.ofString "n") 214), (Value.str (Str.ofString "part") 215)]) 0) (List.toArray []))) ::
    ((nat_lit 33), (Obj.mk (Value.type "tuple") none (Data.seq (List.toArray []) 0) (List.toArray []))) ::
    ((nat_lit 35), (Obj.mk (Value.type "code") none (Data.fields (List.toArray [(Value.str (Str.ofString "read") 210), (Value.str (Str.ofString "BytesIO.read") 211), (Value.str (Str.ofString "/claim/cut.py") 212), (Value.int 8 0), (Value.int 2 0), (Value.int 0 0), (Value.int 0 0), (Value.int 3 0), (Value.ref 30), (Value.bool Bool.true), (Value.int 181 0), (Value.ref 31), Value.none, (Value.ref 32), (Value.ref 33), (Value.ref 34), (Value.int 216 0), (Value.int 8 0), (Value.str (Str.ofString "/claim/cut.py") 217)])) (List.toArray []))) ::
    ((nat_lit 36), (Obj.mk (Value.type "function") none (Data.func (FuncData.mk (Str.ofString "read") (Str.ofString "BytesIO.read") a1 (FuncBody.stmts b1) s1 3 [] Value.none Value.none Value.none (Value.str (Str.ofString "dulwich.bitmap") 187) none (Value.ref 35) Value.none 0)) (List.toArray []))) ::
    ((nat_lit 37), (Obj.mk (Value.type "tuple") none (Data.seq (List.toArray []) 0) (List.toArray []))) ::
    ((nat_lit 39), (Obj.mk (Value.type "tuple") none (Data.seq (List.toArray [(Value.str (Str.ofString "self") 222), (Value.str (Str.ofString "part") 223)]) 0) (List.toArray []))) ::
    ((nat_lit 40), (Obj.mk (Value.type "tuple") none (Data.seq (List.toArray []) 0) (List.toArray []))) ::
    ((nat_lit 42), (Obj.mk (Value.type "code") none (Data.fields (List.toArray [(Value.str (Str.ofString "write") 219), (Value.str (Str.ofString "BytesIO.write") 220), (Value.str (Str.ofString "/claim/cut.py") 221), (Value.int 13 0), (Value.int 2 0), (Value.int 0 0), (Value.int 0 0), (Value.int 3 0), (Value.ref 37), (Value.bool Bool.true), (Value.int 181 0), (Value.ref 38), Value.none, (Value.ref 39), (Value.ref 40), (Value.ref 41), (Value.int 224 0), (Value.int 13 0), (Value.str (Str.ofString "/claim/cut.py") 225)])) (List.toArray []))) ::
    ((nat_lit 43), (Obj.mk (Value.type "function") none (Data.func (FuncData.mk (Str.ofString "write") (Str.ofString "BytesIO.write") a2 (FuncBody.stmts b2) s2 3 [] Value.none Value.none Value.none (Value.str (Str.ofString "dulwich.bitmap") 187) none (Value.ref 42) Value.none 0)) (List.toArray []))) ::
    ((nat_lit 44), (Obj.mk (Value.type "tuple") none (Data.seq (List.toArray []) 0) (List.toArray []))) ::
    ((nat_lit 46), (Obj.mk (Value.type "tuple") none (Data.seq (List.toArray [(Value.str (Str.ofString "self") 230)]) 0) (List.toArray []))) ::
    ((nat_lit 47), (Obj.mk (Value.type "tuple") none (Data.seq (List.toArray []) 0) (List.toArray []))) ::
    ((nat_lit 49), (Obj.mk (Value.type "code") none (Data.fields (List.toArray [(Value.str (Str.ofString "getvalue") 227), (Value.str (Str.ofString "BytesIO.getvalue") 228), (Value.str (Str.ofString "/claim/cut.py") 229), (Value.int 16 0), (Value.int 1 0), (Value.int 0 0), (Value.int 0 0), (Value.int 3 0), (Value.ref 44), (Value.bool Bool.true), (Value.int 181 0), (Value.ref 45), Value.none, (Value.ref 46), (Value.ref 47), (Value.ref 48), (Value.int 231 0), (Value.int 16 0), (Value.str (Str.ofString "/claim/cut.py") 232)])) (List.toArray []))) ::
    ((nat_lit 50), (Obj.mk (Value.type "function") none (Data.func (FuncData.mk (Str.ofString "getvalue") (Str.ofString "BytesIO.getvalue") a3 (FuncBody.stmts b3) s3 3 [] Value.none Value.none Value.none (Value.str (Str.ofString "dulwich.bitmap") 187) none (Value.ref 49) Value.none 0)) (List.toArray []))) ::
    ((nat_lit 51), (Obj.mk (Value.type "tuple") none (Data.seq (List.toArray [(Value.str (Str.ofString "data") 234), (Value.str (Str.ofString "place") 235)]) 0) (List.toArray []))) ::
    ((nat_lit 52), (Obj.mk (Value.type "dict") none (Data.dict (List.toArray [(DictEntry.mk (PyData.keyHash P (Str.ofString "__module__")) (Value.str (Str.ofString "__module__") 196) (Value.str (Str.ofString "dulwich.bitmap") 187)), (DictEntry.mk (PyData.keyHash P (Str.ofString "__firstlineno__")) (Value.str (Str.ofString "__firstlineno__") 200) (Value.int 2 199)), (DictEntry.mk (PyData.keyHash P (Str.ofString "__init__")) (Value.str (Str.ofString "__init__") 209) (Value.ref 29)), (DictEntry.mk (PyData.keyHash P (Str.ofString "read")) (Value.str (Str.ofString "read") 218) (Value.ref 36)), (DictEntry.mk (PyData.keyHash P (Str.ofString "write")) (Value.str (Str.ofString "write") 226) (Value.ref 43)), (DictEntry.mk (PyData.keyHash P (Str.ofString "getvalue")) (Value.str (Str.ofString "getvalue") 233) (Value.ref 50)), (DictEntry.mk (PyData.keyHash P (Str.ofString "__static_attributes__")) (Value.str (Str.ofString "__static_attributes__") 236) (Value.ref 51)), (DictEntry.mk (PyData.keyHash P (Str.ofString "__dict__")) (Value.str (Str.ofString "__dict__") 238) (Value.ref 54)), (DictEntry.mk (PyData.keyHash P (Str.ofString "__weakref__")) (Value.str (Str.ofString "__weakref__") 240) (Value.ref 55)), (DictEntry.mk (PyData.keyHash P (Str.ofString "__doc__")) (Value.str (Str.ofString "__doc__") 241) Value.none)]) 4) (List.toArray []))) ::
    ((nat_lit 53), (Obj.mk (Value.type "type") none (Data.cls (ClassData.mk (Str.ofString "BytesIO") [(Value.type "object")] [(Value.ref 53), (Value.type "object")] 52 (Str.ofString "BytesIO") Bool.true [] [] Bool.false none Bool.false)) (List.toArray [none, none, (some (Value.str (Str.ofString "BytesIO") 189)), (some (Value.str (Str.ofString "BytesIO") 197)), (some (Value.builtin "object.__new__")), (some (Value.bool Bool.true))]))) ::
    ((nat_lit 54), (Obj.mk (Value.type "getset_descriptor") none (Data.fields (List.toArray [(Value.str (Str.ofString "__dict__") 237), (Value.ref 53), (Value.builtin "function.__dict__"), (Value.builtin "function.__dict__#set")])) (List.toArray []))) ::
    ((nat_lit 55), (Obj.mk (Value.type "getset_descriptor") none (Data.fields (List.toArray [(Value.str (Str.ofString "__weakref__") 239), (Value.ref 53), (Value.builtin "ExceptionGroup.__weakref__"), Value.none])) (List.toArray []))) ::
    ((nat_lit 58), (Obj.mk (Value.type "tuple") none (Data.seq (List.toArray []) 0) (List.toArray []))) ::
    ((nat_lit 60), (Obj.mk (Value.type "tuple") none (Data.seq (List.toArray [(Value.str (Str.ofString "words") 249), (Value.str (Str.ofString "compressed_words") 250), (Value.str (Str.ofString "i") 251), (Value.str (Str.ofString "run_value") 252), (Value.str (Str.ofString "run_length") 253), (Value.str (Str.ofString "literals") 254), (Value.str (Str.ofString "running_bit") 255), (Value.str (Str.ofString "rlw") 256)]) 0) (List.toArray []))) ::
    ((nat_lit 61), (Obj.mk (Value.type "tuple") none (Data.seq (List.toArray []) 0) (List.toArray []))) ::
    ((nat_lit 63), (Obj.mk (Value.type "code") none (Data.fields (List.toArray [(Value.str (Str.ofString "_encode_ewah_words") 246), (Value.str (Str.ofString "_encode_ewah_words") 247), (Value.str (Str.ofString "/claim/cut.py") 248), (Value.int 19 0), (Value.int 1 0), (Value.int 0 0), (Value.int 0 0), (Value.int 3 0), (Value.ref 58), (Value.bool Bool.true), (Value.int 181 0), (Value.ref 59), Value.none, (Value.ref 60), (Value.ref 61), (Value.ref 62), (Value.int 257 0), (Value.int 19 0), (Value.str (Str.ofString "/claim/cut.py") 258)])) (List.toArray []))) ::
    ((nat_lit 64), (Obj.mk (Value.type "function") none (Data.func (FuncData.mk (Str.ofString "_encode_ewah_words") (Str.ofString "_encode_ewah_words") a4 (FuncBody.stmts b4) s4 3 [] Value.none Value.none Value.none (Value.str (Str.ofString "dulwich.bitmap") 187) none (Value.ref 63) Value.none 0)) (List.toArray []))) ::
    ((nat_lit 72), (Obj.mk (Value.type "tuple") none (Data.seq (List.toArray [Value.none]) 0) (List.toArray []))) ::
    ((nat_lit 73), (Obj.mk (Value.type "tuple") none (Data.seq (List.toArray []) 0) (List.toArray []))) ::
    ((nat_lit 75), (Obj.mk (Value.type "tuple") none (Data.seq (List.toArray [(Value.str (Str.ofString "self") 275), (Value.str (Str.ofString "data") 276)]) 0) (List.toArray []))) ::
    ((nat_lit 76), (Obj.mk (Value.type "tuple") none (Data.seq (List.toArray []) 0) (List.toArray []))) ::
    ((nat_lit 78), (Obj.mk (Value.type "code") none (Data.fields (List.toArray [(Value.str (Str.ofString "__init__") 272), (Value.str (Str.ofString "EWAHBitmap.__init__") 273), (Value.str (Str.ofString "/claim/cut.py") 274), (Value.int 52 0), (Value.int 2 0), (Value.int 0 0), (Value.int 0 0), (Value.int 3 0), (Value.ref 73), (Value.bool Bool.true), (Value.int 181 0), (Value.ref 74), Value.none, (Value.ref 75), (Value.ref 76), (Value.ref 77), (Value.int 277 0), (Value.int 52 0), (Value.str (Str.ofString "/claim/cut.py") 278)])) (List.toArray []))) ::
    ((nat_lit 79), (Obj.mk (Value.type "function") none (Data.func (FuncData.mk (Str.ofString "__init__") (Str.ofString "EWAHBitmap.__init__") a5 (FuncBody.stmts b5) s5 3 [] (Value.ref 72) Value.none Value.none (Value.str (Str.ofString "dulwich.bitmap") 187) none (Value.ref 78) Value.none 0)) (List.toArray []))) ::
    ((nat_lit 80), (Obj.mk (Value.type "tuple") none (Data.seq (List.toArray []) 0) (List.toArray []))) ::
    ((nat_lit 82), (Obj.mk (Value.type "tuple") none (Data.seq (List.toArray [(Value.str (Str.ofString "self") 283), (Value.str (Str.ofString "data") 284), (Value.str (Str.ofString "f") 285), (Value.str (Str.ofString "bit_count_bytes") 286), (Value.str (Str.ofString "word_count_bytes") 287), (Value.str (Str.ofString "bit_count") 288), (Value.str (Str.ofString "word_count") 289), (Value.str (Str.ofString "current_bit") 290), (Value.str (Str.ofString "max_bits") 291), (Value.str (Str.ofString "words") 292), (Value.str (Str.ofString "_") 293), (Value.str (Str.ofString "word_bytes") 294), (Value.str (Str.ofString "word") 295), (Value.str (Str.ofString "idx") 296), (Value.str (Str.ofString "rlw") 297), (Value.str (Str.ofString "running_bit") 298), (Value.str (Str.ofString "running_len") 299), (Value.str (Str.ofString "literal_words") 300), (Value.str (Str.ofString "run_bits") 301), (Value.str (Str.ofString "i") 302), (Value.str (Str.ofString "literal") 303)]) 0) (List.toArray []))) ::
    ((nat_lit 83), (Obj.mk (Value.type "tuple") none (Data.seq (List.toArray []) 0) (List.toArray []))) ::
    ((nat_lit 85), (Obj.mk (Value.type "code") none (Data.fields (List.toArray [(Value.str (Str.ofString "_decode") 280), (Value.str (Str.ofString "EWAHBitmap._decode") 281), (Value.str (Str.ofString "/claim/cut.py") 282), (Value.int 58 0), (Value.int 2 0), (Value.int 0 0), (Value.int 0 0), (Value.int 3 0), (Value.ref 80), (Value.bool Bool.true), (Value.int 181 0), (Value.ref 81), Value.none, (Value.ref 82), (Value.ref 83), (Value.ref 84), (Value.int 304 0), (Value.int 58 0), (Value.str (Str.ofString "/claim/cut.py") 305)])) (List.toArray []))) ::
    ((nat_lit 86), (Obj.mk (Value.type "function") none (Data.func (FuncData.mk (Str.ofString "_decode") (Str.ofString "EWAHBitmap._decode") a6 (FuncBody.stmts b6) s6 3 [] Value.none Value.none Value.none (Value.str (Str.ofString "dulwich.bitmap") 187) none (Value.ref 85) Value.none 0)) (List.toArray []))) ::
    ((nat_lit 87), (Obj.mk (Value.type "tuple") none (Data.seq (List.toArray []) 0) (List.toArray []))) ::
    ((nat_lit 89), (Obj.mk (Value.type "tuple") none (Data.seq (List.toArray [(Value.str (Str.ofString "self") 310), (Value.str (Str.ofString "max_bit") 311), (Value.str (Str.ofString "bit_count") 312), (Value.str (Str.ofString "word_count") 313), (Value.str (Str.ofString "words") 314), (Value.str (Str.ofString "bit") 315), (Value.str (Str.ofString "word_idx") 316), (Value.str (Str.ofString "bit_idx") 317), (Value.str (Str.ofString "compressed_words") 318), (Value.str (Str.ofString "f") 319), (Value.str (Str.ofString "word") 320)]) 0) (List.toArray []))) ::
    ((nat_lit 90), (Obj.mk (Value.type "tuple") none (Data.seq (List.toArray []) 0) (List.toArray []))) ::
    ((nat_lit 92), (Obj.mk (Value.type "code") none (Data.fields (List.toArray [(Value.str (Str.ofString "encode") 307), (Value.str (Str.ofString "EWAHBitmap.encode") 308), (Value.str (Str.ofString "/claim/cut.py") 309), (Value.int 104 0), (Value.int 1 0), (Value.int 0 0), (Value.int 0 0), (Value.int 3 0), (Value.ref 87), (Value.bool Bool.true), (Value.int 181 0), (Value.ref 88), Value.none, (Value.ref 89), (Value.ref 90), (Value.ref 91), (Value.int 321 0), (Value.int 104 0), (Value.str (Str.ofString "/claim/cut.py") 322)])) (List.toArray []))) ::
    ((nat_lit 93), (Obj.mk (Value.type "function") none (Data.func (FuncData.mk (Str.ofString "encode") (Str.ofString "EWAHBitmap.encode") a7 (FuncBody.stmts b7) s7 3 [] Value.none Value.none Value.none (Value.str (Str.ofString "dulwich.bitmap") 187) none (Value.ref 92) Value.none 0)) (List.toArray []))) ::
    ((nat_lit 94), (Obj.mk (Value.type "tuple") none (Data.seq (List.toArray []) 0) (List.toArray []))) ::
    ((nat_lit 96), (Obj.mk (Value.type "tuple") none (Data.seq (List.toArray [(Value.str (Str.ofString "self") 327), (Value.str (Str.ofString "bit") 328)]) 0) (List.toArray []))) ::
    ((nat_lit 97), (Obj.mk (Value.type "tuple") none (Data.seq (List.toArray []) 0) (List.toArray []))) ::
    ((nat_lit 99), (Obj.mk (Value.type "code") none (Data.fields (List.toArray [(Value.str (Str.ofString "__contains__") 324), (Value.str (Str.ofString "EWAHBitmap.__contains__") 325), (Value.str (Str.ofString "/claim/cut.py") 326), (Value.int 124 0), (Value.int 2 0), (Value.int 0 0), (Value.int 0 0), (Value.int 3 0), (Value.ref 94), (Value.bool Bool.true), (Value.int 181 0), (Value.ref 95), Value.none, (Value.ref 96), (Value.ref 97), (Value.ref 98), (Value.int 329 0), (Value.int 124 0), (Value.str (Str.ofString "/claim/cut.py") 330)])) (List.toArray []))) ::
    ((nat_lit 100), (Obj.mk (Value.type "function") none (Data.func (FuncData.mk (Str.ofString "__contains__") (Str.ofString "EWAHBitmap.__contains__") a8 (FuncBody.stmts b8) s8 3 [] Value.none Value.none Value.none (Value.str (Str.ofString "dulwich.bitmap") 187) none (Value.ref 99) Value.none 0)) (List.toArray []))) ::
    ((nat_lit 101), (Obj.mk (Value.type "tuple") none (Data.seq (List.toArray []) 0) (List.toArray []))) ::
    ((nat_lit 103), (Obj.mk (Value.type "tuple") none (Data.seq (List.toArray [(Value.str (Str.ofString "self") 335)]) 0) (List.toArray []))) ::
    ((nat_lit 104), (Obj.mk (Value.type "tuple") none (Data.seq (List.toArray []) 0) (List.toArray []))) ::
    ((nat_lit 106), (Obj.mk (Value.type "code") none (Data.fields (List.toArray [(Value.str (Str.ofString "__len__") 332), (Value.str (Str.ofString "EWAHBitmap.__len__") 333), (Value.str (Str.ofString "/claim/cut.py") 334), (Value.int 127 0), (Value.int 1 0), (Value.int 0 0), (Value.int 0 0), (Value.int 3 0), (Value.ref 101), (Value.bool Bool.true), (Value.int 181 0), (Value.ref 102), Value.none, (Value.ref 103), (Value.ref 104), (Value.ref 105), (Value.int 336 0), (Value.int 127 0), (Value.str (Str.ofString "/claim/cut.py") 337)])) (List.toArray []))) ::
    ((nat_lit 107), (Obj.mk (Value.type "function") none (Data.func (FuncData.mk (Str.ofString "__len__") (Str.ofString "EWAHBitmap.__len__") a9 (FuncBody.stmts b9) s9 3 [] Value.none Value.none Value.none (Value.str (Str.ofString "dulwich.bitmap") 187) none (Value.ref 106) Value.none 0)) (List.toArray []))) ::
    ((nat_lit 108), (Obj.mk (Value.type "tuple") none (Data.seq (List.toArray []) 0) (List.toArray []))) ::
    ((nat_lit 110), (Obj.mk (Value.type "tuple") none (Data.seq (List.toArray [(Value.str (Str.ofString "self") 342), (Value.str (Str.ofString "other") 343), (Value.str (Str.ofString "result") 344)]) 0) (List.toArray []))) ::
    ((nat_lit 111), (Obj.mk (Value.type "tuple") none (Data.seq (List.toArray []) 0) (List.toArray []))) ::
    ((nat_lit 113), (Obj.mk (Value.type "code") none (Data.fields (List.toArray [(Value.str (Str.ofString "__or__") 339), (Value.str (Str.ofString "EWAHBitmap.__or__") 340), (Value.str (Str.ofString "/claim/cut.py") 341), (Value.int 130 0), (Value.int 2 0), (Value.int 0 0), (Value.int 0 0), (Value.int 3 0), (Value.ref 108), (Value.bool Bool.true), (Value.int 181 0), (Value.ref 109), Value.none, (Value.ref 110), (Value.ref 111), (Value.ref 112), (Value.int 345 0), (Value.int 130 0), (Value.str (Str.ofString "/claim/cut.py") 346)])) (List.toArray []))) ::
    ((nat_lit 114), (Obj.mk (Value.type "function") none (Data.func (FuncData.mk (Str.ofString "__or__") (Str.ofString "EWAHBitmap.__or__") a10 (FuncBody.stmts b10) s10 3 [] Value.none Value.none Value.none (Value.str (Str.ofString "dulwich.bitmap") 187) none (Value.ref 113) Value.none 0)) (List.toArray []))) ::
    ((nat_lit 115), (Obj.mk (Value.type "tuple") none (Data.seq (List.toArray []) 0) (List.toArray []))) ::
    ((nat_lit 117), (Obj.mk (Value.type "tuple") none (Data.seq (List.toArray [(Value.str (Str.ofString "self") 351), (Value.str (Str.ofString "other") 352), (Value.str (Str.ofString "result") 353)]) 0) (List.toArray []))) ::
    ((nat_lit 118), (Obj.mk (Value.type "tuple") none (Data.seq (List.toArray []) 0) (List.toArray []))) ::
    ((nat_lit 120), (Obj.mk (Value.type "code") none (Data.fields (List.toArray [(Value.str (Str.ofString "__and__") 348), (Value.str (Str.ofString "EWAHBitmap.__and__") 349), (Value.str (Str.ofString "/claim/cut.py") 350), (Value.int 136 0), (Value.int 2 0), (Value.int 0 0), (Value.int 0 0), (Value.int 3 0), (Value.ref 115), (Value.bool Bool.true), (Value.int 181 0), (Value.ref 116), Value.none, (Value.ref 117), (Value.ref 118), (Value.ref 119), (Value.int 354 0), (Value.int 136 0), (Value.str (Str.ofString "/claim/cut.py") 355)])) (List.toArray []))) ::
    ((nat_lit 121), (Obj.mk (Value.type "function") none (Data.func (FuncData.mk (Str.ofString "__and__") (Str.ofString "EWAHBitmap.__and__") a11 (FuncBody.stmts b11) s11 3 [] Value.none Value.none Value.none (Value.str (Str.ofString "dulwich.bitmap") 187) none (Value.ref 120) Value.none 0)) (List.toArray []))) ::
    ((nat_lit 122), (Obj.mk (Value.type "tuple") none (Data.seq (List.toArray []) 0) (List.toArray []))) ::
    ((nat_lit 124), (Obj.mk (Value.type "tuple") none (Data.seq (List.toArray [(Value.str (Str.ofString "self") 360), (Value.str (Str.ofString "other") 361), (Value.str (Str.ofString "result") 362)]) 0) (List.toArray []))) ::
    ((nat_lit 125), (Obj.mk (Value.type "tuple") none (Data.seq (List.toArray []) 0) (List.toArray []))) ::
    ((nat_lit 127), (Obj.mk (Value.type "code") none (Data.fields (List.toArray [(Value.str (Str.ofString "__xor__") 357), (Value.str (Str.ofString "EWAHBitmap.__xor__") 358), (Value.str (Str.ofString "/claim/cut.py") 359), (Value.int 142 0), (Value.int 2 0), (Value.int 0 0), (Value.int 0 0), (Value.int 3 0), (Value.ref 122), (Value.bool Bool.true), (Value.int 181 0), (Value.ref 123), Value.none, (Value.ref 124), (Value.ref 125), (Value.ref 126), (Value.int 363 0), (Value.int 142 0), (Value.str (Str.ofString "/claim/cut.py") 364)])) (List.toArray []))) ::
    ((nat_lit 128), (Obj.mk (Value.type "function") none (Data.func (FuncData.mk (Str.ofString "__xor__") (Str.ofString "EWAHBitmap.__xor__") a12 (FuncBody.stmts b12) s12 3 [] Value.none Value.none Value.none (Value.str (Str.ofString "dulwich.bitmap") 187) none (Value.ref 127) Value.none 0)) (List.toArray []))) ::
    ((nat_lit 129), (Obj.mk (Value.type "tuple") none (Data.seq (List.toArray []) 0) (List.toArray []))) ::
    ((nat_lit 131), (Obj.mk (Value.type "tuple") none (Data.seq (List.toArray [(Value.str (Str.ofString "self") 369), (Value.str (Str.ofString "other") 370), (Value.str (Str.ofString "result") 371)]) 0) (List.toArray []))) ::
    ((nat_lit 132), (Obj.mk (Value.type "tuple") none (Data.seq (List.toArray []) 0) (List.toArray []))) ::
    ((nat_lit 134), (Obj.mk (Value.type "code") none (Data.fields (List.toArray [(Value.str (Str.ofString "__sub__") 366), (Value.str (Str.ofString "EWAHBitmap.__sub__") 367), (Value.str (Str.ofString "/claim/cut.py") 368), (Value.int 148 0), (Value.int 2 0), (Value.int 0 0), (Value.int 0 0), (Value.int 3 0), (Value.ref 129), (Value.bool Bool.true), (Value.int 181 0), (Value.ref 130), Value.none, (Value.ref 131), (Value.ref 132), (Value.ref 133), (Value.int 372 0), (Value.int 148 0), (Value.str (Str.ofString "/claim/cut.py") 373)])) (List.toArray []))) ::
    ((nat_lit 135), (Obj.mk (Value.type "function") none (Data.func (FuncData.mk (Str.ofString "__sub__") (Str.ofString "EWAHBitmap.__sub__") a13 (FuncBody.stmts b13) s13 3 [] Value.none Value.none Value.none (Value.str (Str.ofString "dulwich.bitmap") 187) none (Value.ref 134) Value.none 0)) (List.toArray []))) ::
    ((nat_lit 136), (Obj.mk (Value.type "tuple") none (Data.seq (List.toArray []) 0) (List.toArray []))) ::
    ((nat_lit 138), (Obj.mk (Value.type "tuple") none (Data.seq (List.toArray [(Value.str (Str.ofString "self") 378), (Value.str (Str.ofString "bit") 379)]) 0) (List.toArray []))) ::
    ((nat_lit 139), (Obj.mk (Value.type "tuple") none (Data.seq (List.toArray []) 0) (List.toArray []))) ::
    ((nat_lit 141), (Obj.mk (Value.type "code") none (Data.fields (List.toArray [(Value.str (Str.ofString "add") 375), (Value.str (Str.ofString "EWAHBitmap.add") 376), (Value.str (Str.ofString "/claim/cut.py") 377), (Value.int 154 0), (Value.int 2 0), (Value.int 0 0), (Value.int 0 0), (Value.int 3 0), (Value.ref 136), (Value.bool Bool.true), (Value.int 181 0), (Value.ref 137), Value.none, (Value.ref 138), (Value.ref 139), (Value.ref 140), (Value.int 380 0), (Value.int 154 0), (Value.str (Str.ofString "/claim/cut.py") 381)])) (List.toArray []))) ::
    ((nat_lit 142), (Obj.mk (Value.type "function") none (Data.func (FuncData.mk (Str.ofString "add") (Str.ofString "EWAHBitmap.add") a14 (FuncBody.stmts b14) s14 3 [] Value.none Value.none Value.none (Value.str (Str.ofString "dulwich.bitmap") 187) none (Value.ref 141) Value.none 0)) (List.toArray []))) ::
    ((nat_lit 143), (Obj.mk (Value.type "tuple") none (Data.seq (List.toArray [(Value.str (Str.ofString "bit_count") 383), (Value.str (Str.ofString "bits") 384)]) 0) (List.toArray []))) ::
    ((nat_lit 144), (Obj.mk (Value.type "dict") none (Data.dict (List.toArray [(DictEntry.mk (PyData.keyHash P (Str.ofString "__module__")) (Value.str (Str.ofString "__module__") 267) (Value.str (Str.ofString "dulwich.bitmap") 187)), (DictEntry.mk (PyData.keyHash P (Str.ofString "__firstlineno__")) (Value.str (Str.ofString "__firstlineno__") 271) (Value.int 50 270)), (DictEntry.mk (PyData.keyHash P (Str.ofString "__init__")) (Value.str (Str.ofString "__init__") 279) (Value.ref 79)), (DictEntry.mk (PyData.keyHash P (Str.ofString "_decode")) (Value.str (Str.ofString "_decode") 306) (Value.ref 86)), (DictEntry.mk (PyData.keyHash P (Str.ofString "encode")) (Value.str (Str.ofString "encode") 323) (Value.ref 93)), (DictEntry.mk (PyData.keyHash P (Str.ofString "__contains__")) (Value.str (Str.ofString "__contains__") 331) (Value.ref 100)), (DictEntry.mk (PyData.keyHash P (Str.ofString "__len__")) (Value.str (Str.ofString "__len__") 338) (Value.ref 107)), (DictEntry.mk (PyData.keyHash P (Str.ofString "__or__")) (Value.str (Str.ofString "__or__") 347) (Value.ref 114)), (DictEntry.mk (PyData.keyHash P (Str.ofString "__and__")) (Value.str (Str.ofString "__and__") 356) (Value.ref 121)), (DictEntry.mk (PyData.keyHash P (Str.ofString "__xor__")) (Value.str (Str.ofString "__xor__") 365) (Value.ref 128)), (DictEntry.mk (PyData.keyHash P (Str.ofString "__sub__")) (Value.str (Str.ofString "__sub__") 374) (Value.ref 135)), (DictEntry.mk (PyData.keyHash P (Str.ofString "add")) (Value.str (Str.ofString "add") 382) (Value.ref 142)), (DictEntry.mk (PyData.keyHash P (Str.ofString "__static_attributes__")) (Value.str (Str.ofString "__static_attributes__") 385) (Value.ref 143)), (DictEntry.mk (PyData.keyHash P (Str.ofString "__dict__")) (Value.str (Str.ofString "__dict__") 387) (Value.ref 146)), (DictEntry.mk (PyData.keyHash P (Str.ofString "__weakref__")) (Value.str (Str.ofString "__weakref__") 389) (Value.ref 147)), (DictEntry.mk (PyData.keyHash P (Str.ofString "__doc__")) (Value.str (Str.ofString "__doc__") 390) Value.none)]) 4) (List.toArray []))) ::
    ((nat_lit 145), (Obj.mk (Value.type "type") none (Data.cls (ClassData.mk (Str.ofString "EWAHBitmap") [(Value.type "object")] [(Value.ref 145), (Value.type "object")] 144 (Str.ofString "EWAHBitmap") Bool.true [] [] Bool.false none Bool.false)) (List.toArray [none, none, (some (Value.str (Str.ofString "EWAHBitmap") 260)), (some (Value.str (Str.ofString "EWAHBitmap") 268)), (some (Value.builtin "object.__new__")), (some (Value.bool Bool.true))]))) ::
    ((nat_lit 146), (Obj.mk (Value.type "getset_descriptor") none (Data.fields (List.toArray [(Value.str (Str.ofString "__dict__") 386), (Value.ref 145), (Value.builtin "function.__dict__"), (Value.builtin "function.__dict__#set")])) (List.toArray []))) ::
    ((nat_lit 147), (Obj.mk (Value.type "getset_descriptor") none (Data.fields (List.toArray [(Value.str (Str.ofString "__weakref__") 388), (Value.ref 145), (Value.builtin "ExceptionGroup.__weakref__"), Value.none])) (List.toArray []))) ::
    ((nat_lit 150), (Obj.mk (Value.type "tuple") none (Data.seq (List.toArray []) 0) (List.toArray []))) ::
    ((nat_lit 152), (Obj.mk (Value.type "tuple") none (Data.seq (List.toArray [(Value.str (Str.ofString "places") 398), (Value.str (Str.ofString "words") 399), (Value.str (Str.ofString "place") 400), (Value.str (Str.ofString "rows") 401), (Value.str (Str.ofString "at") 402), (Value.str (Str.ofString "k") 403), (Value.str (Str.ofString "told") 404), (Value.str (Str.ofString "run") 405), (Value.str (Str.ofString "literals") 406), (Value.str (Str.ofString "octets") 407), (Value.str (Str.ofString "word") 408)]) 0) (List.toArray []))) ::
    ((nat_lit 153), (Obj.mk (Value.type "tuple") none (Data.seq (List.toArray []) 0) (List.toArray []))) ::
    ((nat_lit 155), (Obj.mk (Value.type "code") none (Data.fields (List.toArray [(Value.str (Str.ofString "_law_octets") 395), (Value.str (Str.ofString "_law_octets") 396), (Value.str (Str.ofString "/claim/cut.py") 397), (Value.int 158 0), (Value.int 1 0), (Value.int 0 0), (Value.int 0 0), (Value.int 3 0), (Value.ref 150), (Value.bool Bool.true), (Value.int 181 0), (Value.ref 151), Value.none, (Value.ref 152), (Value.ref 153), (Value.ref 154), (Value.int 409 0), (Value.int 158 0), (Value.str (Str.ofString "/claim/cut.py") 410)])) (List.toArray []))) ::
    ((nat_lit 156), (Obj.mk (Value.type "function") none (Data.func (FuncData.mk (Str.ofString "_law_octets") (Str.ofString "_law_octets") a15 (FuncBody.stmts b15) s15 3 [] Value.none Value.none Value.none (Value.str (Str.ofString "law_jg0025_01") 393) none (Value.ref 155) Value.none 0)) (List.toArray []))) ::
    ((nat_lit 157), (Obj.mk (Value.type "tuple") none (Data.seq (List.toArray []) 0) (List.toArray []))) ::
    ((nat_lit 160), (Obj.mk (Value.type "code") none (Data.fields (List.toArray [(Value.str (Str.ofString "law") 412), (Value.str (Str.ofString "law") 413), (Value.str (Str.ofString "/claim/cut.py") 414), (Value.int 176 0), (Value.int 1 0), (Value.int 0 0), (Value.int 0 0), (Value.int 3 0), (Value.ref 157), (Value.bool Bool.true), (Value.int 181 0), (Value.ref 158), Value.none, Value.none, Value.none, (Value.ref 159), (Value.int 415 0), (Value.int 176 0), (Value.str (Str.ofString "/claim/cut.py") 416)])) (List.toArray []))) ::
    ((nat_lit 161), (Obj.mk (Value.type "function") none (Data.func (FuncData.mk (Str.ofString "law") (Str.ofString "law") a16 (FuncBody.stmts b16) s16 3 [] Value.none Value.none Value.none (Value.str (Str.ofString "law_jg0025_01") 393) none (Value.ref 160) Value.none 0)) (List.toArray []))) :: []) : Frag)) _ _ _ _ _ _ _ _ _ _ _ _ _ _ _ _ _ _ _ _ _ _ _ _ _ _ _ _ _ _ _ _ _ _ _ _ _ _ _ _ _ _ _ _ _ _ _ _ _ _ _ rfl
noncomputable def hd.view_39 : Program := PySem.W.view PySem.Challenge.pw_jg0025_01 [1, 2, 3, 4, 6, 7]
noncomputable abbrev hd.as : List Nat := [2, 3, 22, 23, 25, 26, 28, 29, 30, 32, 33, 35, 36, 37, 39, 40, 42, 43, 44, 46, 47, 49, 50, 51, 52, 53, 54, 55, 58, 60, 61, 63, 64, 72, 73, 75, 76, 78, 79, 80, 82, 83, 85, 86, 87, 89, 90, 92, 93, 94, 96, 97, 99, 100, 101, 103, 104, 106, 107, 108, 110, 111, 113, 114, 115, 117, 118, 120, 121, 122, 124, 125, 127, 128, 129, 131, 132, 134, 135, 136, 138, 139, 141, 142, 143, 144, 145, 146, 147, 150, 152, 153, 155, 156, 157, 160, 161]
theorem hd.as_eq : ∀ P : Params, hd.as = (hd.heap_39 P).map (·.1) := fun _ => by kernel_rfl
noncomputable abbrev hd.hook : Hook := kHook hd.heap_39 hd.as hd.as_eq
noncomputable abbrev hd.seen : Shared → Bool := fun s => xlAt hd.view_39 [] s && recOk (RowW.records PySem.Challenge.rw_jg0025_01.row.toRowW) s
theorem hd.left_of_boot {p q : Program} {loose : List Str} {Xt : Shared → Bool} {α : Type} {Yf : Shared → α} {Ya : World → α} {N : Nat} {H : Params → Heap} {g : Array GenState} {d : Drawn} {k : Nat}
    (b : ∀ w : World, (fencedOpening treeTable p w N).map (fun s => (s.heap, s.gens, s.drawn, s.toks)) = some (H w.params, g, d, k))
    (h : ∀ (w : World) (os : OsState), (topFrom treeTable p w N ⟨H w.params, g, d, k, os⟩).map (fun s => (openSeen q loose (importedModules p.main.body) Xt true s, Yf s)) = some (openGood q loose, Ya w)) : LeftO p q loose Xt Yf Ya N := fun w => by
  obtain ⟨s₀, a, e⟩ := Option.map_eq_some_iff.mp (b w)
  unfold openEnds
  rw [a]
  obtain ⟨hp, gs, dr, tk, os⟩ := s₀
  obtain ⟨e1, e2⟩ := Prod.mk.inj e
  obtain ⟨e2, e3⟩ := Prod.mk.inj e2
  obtain ⟨e3, e4⟩ := Prod.mk.inj e3
  cases e1; cases e2; cases e3; cases e4
  exact h w os
theorem hd.boot : ∀ w : World, (fencedOpening treeTable PySem.Challenge.rw_jg0025_01.row.prog w 2110).map (fun s => (s.heap, s.gens, s.drawn, s.toks)) = some (boot_heap w.params, Array.mk [], boot_drawn, boot_toks) :=
  boot_open (by kernel_rfl) rfl (fun _ => by kernel_rfl)
/- the library's quick twins of topRun, treeTable, openSeen, importedModules, OpenLaw.wellSaid: the kernel is done in half the time -/
theorem hd.left : LeftO PySem.Challenge.rw_jg0025_01.row.prog hd.view_39 [Str.ofString "BytesIO"] hd.seen hd.hook.obs hd.hook.val 2110 :=
  hd.left_of_boot hd.boot fun w os => by
    unfold topFrom
    rw [PySem.W.Fast.te14082659384304107361, PySem.W.Fast.te14364793385576792824, PySem.W.Fast.te4187177175401517315, PySem.W.Fast.te5923862056798008813]
    kernel_rfl
theorem hd.said : PySem.Challenge.rw_jg0025_01.wellSaid = true := by
  rw [PySem.W.Fast.te9446332074065402090]
  kernel_rfl
theorem hd {d : DefRec} {kwd : List (Str × PySem.Expr)} (hdef : defOf hd.view_39 PySem.Challenge.rw_jg0025_01.row.name = some (d, kwd)) (hp : PySem.Challenge.rw_jg0025_01.row.prog.theDef PySem.Challenge.rw_jg0025_01.row.name = some (d.params, d.body, d.scope))
    (hk : kwWritten? d.params.kwonlyargs d.params.kw_defaults = some kwd)
    (walk : WalkO hd.view_39 [Str.ofString "BytesIO"] (XL hd.view_39 []) (kHook hd.heap_39 hd.as hd.as_eq).says PySem.Challenge.rw_jg0025_01.row.toRowW d kwd fun f vs => PySem.call f vs) : PySem.Challenge.rw_jg0025_01.Holds := by
  refine holds_law hd.said fun said => ?_
  refine holds_open (q := hd.view_39) (loose := [Str.ofString "BytesIO"]) (Xt := hd.seen) (XP := XL hd.view_39 []) (Yf := hd.hook.obs) (Ya := hd.hook.val) (YP := (kHook hd.heap_39 hd.as hd.as_eq).says) (N := 2110) hd.left (Hook.of hd.hook) (Hook.keeps hd.hook)
    (fun s e => xl_of s (Bool.and_eq_true_iff.mp e).1) XL.keeps hdef hp hk (fun s e => recFacts_of (Bool.and_eq_true_iff.mp e).2) rfl said (by decide +kernel) ⟨rfl, rfl, rfl, rfl, rfl, by decide +kernel⟩ ?hw walk
  case hw => w_witness2
end Mine
end

section
open PySem PySem.W PyProof.Rows PySem.Spec PySem.Calls
set_option Elab.async false
namespace Mine

theorem perm_of_map {α β : Type} {f : α → β} {L N : List β} (h : List.Perm L N) : ∀ {M : List α}, N = M.map f → ∃ M', List.Perm M' M ∧ L = M'.map f := by
  induction h with
  | nil => intro M e; exact ⟨M, .refl _, e⟩
  | cons x h ih =>
    intro M e
    cases M with
    | nil => cases e
    | cons a M =>
      rw [List.map_cons] at e
      injection e with e1 e2
      obtain ⟨M', p, q⟩ := ih e2
      exact ⟨a :: M', p.cons a, by rw [List.map_cons, ← q, e1]⟩
  | swap x y l =>
    intro M e
    cases M with
    | nil => cases e
    | cons a M =>
      cases M with
      | nil => simp at e
      | cons b M =>
        simp only [List.map_cons] at e
        injection e with e1 e2
        injection e2 with e2 e3
        exact ⟨b :: a :: M, .swap a b M, by simp only [List.map_cons]; rw [e1, e2, e3]⟩
  | trans h1 h2 ih1 ih2 =>
    intro M e
    obtain ⟨M₁, p₁, q₁⟩ := ih2 e
    obtain ⟨M₂, p₂, q₂⟩ := ih1 q₁
    exact ⟨M₂, p₂.trans p₁, q₂⟩

/-- an entry of a set of ints -/
noncomputable def ent (p : Int × Tok) : Int × Value := (hashInt p.1, .int p.1 p.2)
noncomputable def byText (w : World) : Bool := w.params.followText "set-order"
noncomputable def Wk (w : World) (t : SetTable) : Prop := byText w = true ∨ (t.led = true ∧ (t.plain = true → t.place.toList.Pairwise (· < ·)))
noncomputable def SetI (w : World) (o : Obj) (l : List (Int × Tok)) : Prop :=
  ∃ ep t, o.ExactSet ∧ o.data = .set (l.map ent).toArray ep t ∧ (l.map (·.1)).Nodup ∧ l.length < scanBound ∧ t.fits l.length = true ∧ Wk w t
noncomputable def SetP (w : World) (o : Obj) (xs : List Int) : Prop := ∃ l, SetI w o l ∧ List.Perm (l.map (·.1)) xs
noncomputable def addTo (xs : List Int) (k : Int) : List Int := if k ∈ xs then xs else xs ++ [k]

theorem SetP.nodup {w : World} {o : Obj} {xs : List Int} (h : SetP w o xs) : xs.Nodup := by
  obtain ⟨l, ⟨_, _, _, _, hn, _⟩, p⟩ := h
  exact p.nodup_iff.mp hn
theorem SetP.length {w : World} {o : Obj} {xs : List Int} (h : SetP w o xs) : xs.length < scanBound := by
  obtain ⟨l, ⟨_, _, _, _, _, hl, _⟩, p⟩ := h
  rw [← p.length_eq, List.length_map]; exact hl
theorem SetP.perm {w : World} {o : Obj} {xs ys : List Int} (h : SetP w o xs) (p : List.Perm xs ys) : SetP w o ys := by
  obtain ⟨l, a, q⟩ := h
  exact ⟨l, a, q.trans p⟩

theorem elems_ent {prog : Program} {w : World} (l : List (Int × Tok)) : ElemsOf (intKind prog w) (l.map ent) := by
  intro e he
  obtain ⟨p, _, rfl⟩ := List.mem_map.mp he
  exact ⟨⟨p.1, intKind_is _ _ _ _, rfl⟩, rfl⟩
theorem is_ent {prog : Program} {w : World} (k : Int) (p : Int × Tok) : (intKind prog w).is k (ent p).2 = decide (p.1 = k) := by
  show Value.isInt k (.int p.1 p.2) = _
  have h := KeyKind.is_eq_decide (knd := intKind prog w) (intKind_is prog w p.1 p.2) k
  rw [show Value.isInt k (.int p.1 p.2) = (intKind prog w).is k (.int p.1 p.2) from rfl, h]
  by_cases e : k = p.1
  · subst e; simp
  · rw [decide_eq_false e, decide_eq_false (fun q => e q.symm)]
theorem mem_ent {prog : Program} {w : World} (l : List (Int × Tok)) (k : Int) : (∃ e ∈ l.map ent, (intKind prog w).is k e.2 = true) ↔ k ∈ l.map (·.1) := by
  constructor
  · rintro ⟨e, he, h⟩
    obtain ⟨p, hp, rfl⟩ := List.mem_map.mp he
    rw [is_ent, decide_eq_true_eq] at h
    exact List.mem_map.mpr ⟨p, hp, h⟩
  · intro h
    obtain ⟨p, hp, rfl⟩ := List.mem_map.mp h
    exact ⟨ent p, List.mem_map_of_mem hp, by rw [is_ent]; simp⟩
theorem SetI.objOf {prog : Program} {w : World} {o : Obj} {l : List (Int × Tok)} (h : SetI w o l) : o.SetObjOf (intKind prog w) (fun k => decide (k ∈ l.map (·.1))) l.length := by
  obtain ⟨ep, t, hc, hd, hn, hb, hf, hw⟩ := h
  refine ⟨hc, (l.map ent).toArray, ep, t, hd, elems_ent l, fun k => ?_, by simp, by simpa using hf⟩
  rw [decide_eq_true_eq]; exact (mem_ent l k).symm
theorem SetP.objOf {prog : Program} {w : World} {o : Obj} {xs : List Int} (h : SetP w o xs) : o.SetObjOf (intKind prog w) (fun k => decide (k ∈ xs)) xs.length := by
  obtain ⟨l, hl, p⟩ := h
  have := hl.objOf (prog := prog)
  have e : (fun k => decide (k ∈ l.map (·.1))) = fun k => decide (k ∈ xs) := funext fun k => by simp only [p.mem_iff]
  rw [e, show l.length = xs.length by rw [← p.length_eq, List.length_map]] at this
  exact this

/-! the table's places rise -/
noncomputable abbrev Rises (xs : Array Nat) : Prop := xs.toList.Pairwise (· < ·)
theorem rises_get {xs : Array Nat} (h : Rises xs) {i j : Nat} {a b : Nat} (hij : i < j) (ha : xs[i]? = some a) (hb : xs[j]? = some b) : a < b := by
  rw [← Array.getElem?_toList] at ha hb
  obtain ⟨hi, ea⟩ := List.getElem?_eq_some_iff.mp ha
  obtain ⟨hj, eb⟩ := List.getElem?_eq_some_iff.mp hb
  have := List.pairwise_iff_getElem.mp h i j hi hj hij
  rw [ea, eb] at this; exact this
theorem below_go {xs : Array Nat} (h : Rises xs) (j : Nat) : ∀ (fuel lo hi : Nat), hi ≤ xs.size → lo ≤ hi → hi - lo ≤ fuel →
    (∀ i a, i < lo → xs[i]? = some a → a < j) → (∀ i a, hi ≤ i → xs[i]? = some a → j ≤ a) →
    (SetTable.below.go xs j fuel lo hi ≤ xs.size ∧ (∀ i a, i < SetTable.below.go xs j fuel lo hi → xs[i]? = some a → a < j) ∧ (∀ i a, SetTable.below.go xs j fuel lo hi ≤ i → xs[i]? = some a → j ≤ a)) := by
  intro fuel
  induction fuel with
  | zero =>
    intro lo hi h1 h2 h3 h4 h5
    have : lo = hi := by lia
    subst this
    exact ⟨h1, h4, h5⟩
  | succ fuel ih =>
    intro lo hi h1 h2 h3 h4 h5
    unfold SetTable.below.go
    by_cases hlt : lo < hi
    · rw [if_pos hlt]
      have hm : (lo + hi) / 2 < xs.size := by lia
      have hget : xs[(lo + hi) / 2]? = some (xs.getD ((lo + hi) / 2) j) := by
        rw [Array.getD_eq_getD_getElem?, Array.getElem?_eq_getElem hm]; rfl
      dsimp only
      by_cases hc : xs.getD ((lo + hi) / 2) j < j
      · rw [if_pos hc]
        refine ih _ _ h1 (by lia) (by lia) (fun i a hi' ha => ?_) h5
        rcases Nat.lt_or_ge i ((lo + hi) / 2) with q | q
        · exact Nat.lt_trans (rises_get h q ha hget) hc
        · have : i = (lo + hi) / 2 := by lia
          subst this
          rw [hget] at ha; cases ha; exact hc
      · rw [if_neg hc]
        refine ih _ _ (by lia) (by lia) (by lia) h4 (fun i a hi' ha => ?_)
        rcases Nat.lt_or_ge ((lo + hi) / 2) i with q | q
        · exact Nat.le_of_lt (Nat.lt_of_le_of_lt (Nat.not_lt.mp hc) (rises_get h q hget ha))
        · have : i = (lo + hi) / 2 := by lia
          subst this
          rw [hget] at ha; cases ha; exact Nat.not_lt.mp hc
    · rw [if_neg hlt]
      have : lo = hi := by lia
      subst this
      exact ⟨h1, h4, h5⟩
theorem below_spec {xs : Array Nat} (h : Rises xs) (j : Nat) : SetTable.below xs j ≤ xs.size ∧ (∀ i a, i < SetTable.below xs j → xs[i]? = some a → a < j) ∧ (∀ i a, SetTable.below xs j ≤ i → xs[i]? = some a → j ≤ a) :=
  below_go h j xs.size 0 xs.size (Nat.le_refl _) (Nat.zero_le _) (by lia) (fun i a hi _ => absurd hi (Nat.not_lt_zero _)) (fun i a hi ha => by
    rw [Array.getElem?_eq_none hi] at ha; cases ha)
theorem below_eq {xs : Array Nat} (h : Rises xs) {j p : Nat} (h1 : ∀ i a, i < p → xs[i]? = some a → a < j) (h2 : ∀ i a, p ≤ i → xs[i]? = some a → j ≤ a) (hp : p ≤ xs.size) : SetTable.below xs j = p := by
  obtain ⟨b0, b1, b2⟩ := below_spec h j
  rcases Nat.lt_trichotomy (SetTable.below xs j) p with q | q | q
  · have hs : SetTable.below xs j < xs.size := by lia
    have g := Array.getElem?_eq_getElem hs
    have x := h1 _ _ q g
    have y := b2 _ _ (Nat.le_refl _) g
    lia
  · exact q
  · have hs : p < xs.size := by lia
    have g := Array.getElem?_eq_getElem hs
    have x := b1 _ _ q g
    have y := h2 _ _ (Nat.le_refl _) g
    lia
theorem rises_insert {xs : Array Nat} (h : Rises xs) {j : Nat} (hn : xs[SetTable.below xs j]? ≠ some j) : Rises (SetTable.insertAt xs (SetTable.below xs j) j) := by
  obtain ⟨b0, b1, b2⟩ := below_spec h j
  show List.Pairwise _ (SetTable.insertAt xs _ j).toList
  rw [SetTable.toList_insertAt, List.pairwise_append, List.pairwise_cons]
  refine ⟨List.Pairwise.sublist (List.take_sublist _ _) h, ⟨fun a ha => ?_, List.Pairwise.sublist (List.drop_sublist _ _) h⟩, fun a ha b hb => ?_⟩
  · obtain ⟨i, hi, e⟩ := List.mem_iff_getElem.mp ha
    have g : xs[SetTable.below xs j + i]? = some a := by
      rw [← Array.getElem?_toList, ← List.getElem?_drop, List.getElem?_eq_getElem hi, e]
    have := b2 _ _ (Nat.le_add_right _ _) g
    rcases Nat.eq_zero_or_pos i with z | z
    · subst z
      rw [Nat.add_zero] at g
      have : j ≠ a := fun q => hn (by rw [g, q])
      lia
    · have hs : SetTable.below xs j < xs.size := by
        have := (Array.getElem?_eq_some_iff.mp g).1; lia
      have g0 := Array.getElem?_eq_getElem hs
      have y := b2 _ _ (Nat.le_refl _) g0
      have := rises_get h (show SetTable.below xs j < SetTable.below xs j + i by lia) g0 g
      lia
  · obtain ⟨i, hi, e⟩ := List.mem_iff_getElem.mp ha
    have hi' : i < SetTable.below xs j := by rw [List.length_take] at hi; lia
    have g : xs[i]? = some a := by
      rw [← Array.getElem?_toList, ← e, List.getElem_take, List.getElem?_eq_getElem]
    have ha' := b1 _ _ hi' g
    rcases List.mem_cons.mp hb with rfl | hb
    · exact ha'
    · obtain ⟨k, hk, e'⟩ := List.mem_iff_getElem.mp hb
      have g' : xs[SetTable.below xs j + k]? = some b := by
        rw [← Array.getElem?_toList, ← List.getElem?_drop, List.getElem?_eq_getElem hk, e']
      have := b2 _ _ (Nat.le_add_right _ _) g'
      lia
/-- a probe meets a slot that is not live -/
theorem probe_go (t : SetTable) (ha : Nat → Int) (h : Int) : ∀ (fuel : Nat) (p : SetTable.Probe) (j : Nat) (d : Option Nat), (∀ i, p.dummy = some i → ∀ k, t.slot i ≠ .live k) →
    SetTable.probe.go t ha h fuel p = some (.empty j d) → (∀ k, t.slot j ≠ .live k) ∧ ∀ i, d = some i → ∀ k, t.slot i ≠ .live k := by
  intro fuel
  have adv : ∀ p : SetTable.Probe, (t.advance p).dummy = p.dummy := fun p => by unfold SetTable.advance; split <;> rfl
  induction fuel with
  | zero => intro p j d _ e; unfold SetTable.probe.go at e; cases e
  | succ fuel ih =>
    intro p j d hp e
    unfold SetTable.probe.go at e
    split at e
    · rename_i hs
      injection e with e; injection e with e1 e2
      subst e1; subst e2
      exact ⟨fun k q => by rw [hs] at q; exact SetTable.Slot.noConfusion q, hp⟩
    · rename_i hs
      refine ih _ j d (fun i hi k q => ?_) e
      rw [adv] at hi
      injection hi with hi
      subst hi
      rw [hs] at q; exact SetTable.Slot.noConfusion q
    · split at e
      · cases e
      · exact ih _ j d (fun i hi => by rw [adv] at hi; exact hp i hi) e
theorem freeSlot_free {t : SetTable} {h : Int} {j : Nat} {b : Bool} (e : t.freeSlot h = some (j, b)) : ∀ k, t.slot j ≠ .live k := by
  unfold SetTable.freeSlot at e
  split at e
  · rename_i j' d q
    injection e with e; injection e with e1 e2
    have := probe_go t _ h _ _ _ _ (fun i hi => by cases hi) q
    cases d with
    | none => rw [← e1]; exact this.1
    | some i => rw [← e1]; exact this.2 i rfl
  · cases e
theorem rises_range (n : Nat) : Rises (Array.range n) := by
  show List.Pairwise _ (Array.range n).toList
  rw [Array.toList_range]; exact List.pairwise_lt_range
theorem layNew_wk {w : World} {t : SetTable} (hw : Wk w t) (es : Array (Int × Value)) (h : Int) (x : Value) : Wk w (layNew t es h x).2.1 := by
  rcases hw with hw | ⟨hl, hp⟩
  · exact .inl hw
  right
  unfold layNew
  split
  · rename_i j b e
    dsimp only
    unfold SetTable.orStandIn
    split
    · refine ⟨hl, fun q => ?_⟩
      have hr := hp q
      refine rises_insert hr fun z => ?_
      have := freeSlot_free e (SetTable.below t.place j)
      apply this
      unfold SetTable.slot
      simp [z]
    · exact ⟨hl, fun q => by cases q⟩
  · exact ⟨hl, fun q => by cases q⟩
theorem relayAll_wk {w : World} {t : SetTable} (hw : Wk w t) (es : Array (Int × Value)) (n : Nat) : Wk w (relayAll t es n).2.1 := by
  rcases hw with hw | ⟨hl, hp⟩
  · exact .inl hw
  right
  unfold relayAll
  split
  · rename_i t' order e
    dsimp only
    split
    · unfold SetTable.relaid SetTable.laid at e
      cases hc : SetTable.layClean (SetTable.sizeAbove n - 1) (es.map (·.1)) with
      | none => rw [hc] at e; cases e
      | some owner =>
        rw [hc] at e
        injection e with e; injection e with e1 e2
        subst e1
        refine ⟨hl, fun _ => ?_⟩
        show List.Pairwise _ (List.toArray _).toList
        dsimp only
        rw [List.map_filterMap]
        refine List.Pairwise.filterMap _ (R := (· < ·)) ?_ List.pairwise_lt_range
        intro a a' haa b hb b' hb'
        have key : ∀ {a b : Nat}, Option.map (fun y : Nat × Nat => y.1) (Option.map (fun x => (a, x)) (owner.getD a none)) = some b → b = a := by
          intro a b q
          cases ho : owner.getD a none with
          | none => rw [ho] at q; cases q
          | some y => rw [ho] at q; injection q with q; exact q.symm
        rw [key hb, key hb']
        exact haa
    · exact ⟨hl, fun q => by cases q⟩
  · exact ⟨hl, fun q => by cases q⟩
end Mine
end

section
open PySem PySem.W PyProof.Rows PySem.Spec PySem.Calls
set_option Elab.async false
namespace Mine
section
variable {prog : Program} {w : World} {A : Around} {E : Value → Shared → Prop} {s : Shared}

/-- what stands after a store into the set -/
theorem setI_stored {o : Obj} {l₀ : List (Int × Tok)} (h₀ : SetI w o l₀) {es' : Array (Int × Value)} {t' : SetTable} {M : List (Int × Tok)} (hp : List.Perm es'.toList (M.map ent)) (hn : (M.map (·.1)).Nodup) (hb : M.length < scanBound) (hf : t'.fits es'.size = true) (hw : Wk w t') :
    ∃ l, SetI w (Obj.putSet es' t' o) l ∧ List.Perm l M := by
  obtain ⟨ep, t, hc, hd, _, _, _, _⟩ := h₀
  obtain ⟨l, p, e⟩ := perm_of_map hp rfl
  refine ⟨l, ⟨ep + 1, t', ?_, ?_, (p.map (·.1)).nodup_iff.mpr hn, by rw [p.length_eq]; exact hb, ?_, hw⟩, p⟩
  · rw [putSet_of es' t' hd]; exact hc
  · rw [putSet_of es' t' hd, ← e]
  · have : es'.size = l.length := by rw [← Array.length_toList, e, List.length_map]
    rw [← this]; exact hf

theorem wpAny_addTailP {g : Bool → Sem Unit} (hg : ∀ (b : Bool) (s₁ : Shared) (Q' : Unit → Shared → Prop), Q' () s₁ → wpAny (model prog w) A (g b) Q' E s₁)
    {a : Addr} {o : Obj} {l₀ : List (Int × Tok)} (ho : s.heap.get? a = some o) (hI : SetI w o l₀)
    {es1 : Array (Int × Value)} {t2 : SetTable} {M : List (Int × Tok)} (hp1 : List.Perm es1.toList (M.map ent)) (hn : (M.map (·.1)).Nodup) (hb : M.length < scanBound) (hf2 : t2.fits es1.size = true) (hw : Wk w t2) {wasDummy : Bool} {R : Option Bool → Shared → Prop}
    (h : ∀ h' o' l, Heap.SameBut a s.heap h' → h'.get? a = some o' → SetI w o' l → List.Perm l M → R (some true) { s with heap := h' }) :
    wpAny (model prog w) A (do
        storeSet a es1 t2
        if (!wasDummy && t2.tooFull) = true then do
            g (relayAll t2 es1 (SetTable.grown es1.size)).2.2
            storeSet a (relayAll t2 es1 (SetTable.grown es1.size)).1 (relayAll t2 es1 (SetTable.grown es1.size)).2.1
            pure (some true)
          else pure (some true)) R E s := by
  have hex := hI
  obtain ⟨ep, t, hc, hd, _⟩ := hex
  have hsz1 : es1.size = M.length := by rw [← Array.length_toList, hp1.length_eq, List.length_map]
  refine wpAny_bind (wpAny_storeSet_of ho hd ?_ (fits_of_scanBound (by rw [hsz1]; exact hb)))
  obtain ⟨l1, hI1, p1⟩ := setI_stored hI hp1 hn hb hf2 hw
  have ho1 : (s.heap.update a (Obj.putSet es1 t2)).get? a = some (Obj.putSet es1 t2 o) := Heap.get?_update_self _ ho (by rw [putSet_of es1 t2 hd]; rfl)
  have hsb1 := Heap.SameBut.update s.heap a (Obj.putSet es1 t2)
  split
  · have hp := relayAll_perm t2 es1 (SetTable.grown es1.size)
    have hfr := relayAll_fits t2 es1 (SetTable.grown es1.size)
    have hwr := relayAll_wk hw es1 (SetTable.grown es1.size)
    generalize relayAll t2 es1 (SetTable.grown es1.size) = Rl at hp hfr hwr ⊢
    obtain ⟨es2, t3, gave2⟩ := Rl
    dsimp only at hp hfr hwr ⊢
    obtain ⟨l2, hI2, p2⟩ := setI_stored hI1 (hp.trans hp1) hn hb hfr hwr
    have hsz2 : es2.size = M.length := by rw [← Array.length_toList, (hp.trans hp1).length_eq, List.length_map]
    refine wpAny_bind (hg _ _ _ ?_)
    obtain ⟨ep1, t1, hc1, hd1, _⟩ := hI1
    refine wpAny_bind (wpAny_storeSet_of ho1 hd1 ?_ (fits_of_scanBound (by rw [hsz2]; exact hb)))
    refine wpAny_pure (h _ _ l2 (hsb1.trans (Heap.SameBut.update _ a _)) (Heap.get?_update_self _ ho1 ?_) hI2 p2)
    rw [putSet_of es2 t3 hd1]; rfl
  · exact wpAny_pure (h _ _ l1 hsb1 ho1 hI1 p1)

theorem add_hashed {a : Addr} {o : Obj} {xs : List Int} {k : Int} {tk : Tok} {Q : Bool → Shared → Prop} (ho : s.heap.get? a = some o) (hP : SetP w o xs) (hroom : xs.length + 1 < scanBound)
    (h : ∀ h' o', Heap.SameBut a s.heap h' → h'.get? a = some o' → SetP w o' (addTo xs k) → Q (!decide (k ∈ xs)) { s with heap := h' }) :
    wpAny (model prog w) A (setAddHashed a (.int k tk) (hashInt k)) Q E s := by
  have hP0 := hP
  obtain ⟨l, hI, hp⟩ := hP
  have hI0 := hI
  have hlen : l.length = xs.length := by rw [← hp.length_eq, List.length_map]
  obtain ⟨ep, t, hex, hd, hnd, hb, hf, hw⟩ := hI
  have hel : ElemsOf (intKind prog w) (l.map ent).toArray.toList := elems_ent l
  have hf' : t.fits (l.map ent).toArray.size = true := by simpa using hf
  have hb' : (l.map ent).toArray.size < scanBound := by simpa using hb
  have hkey : (intKind prog w).is k (.int k tk) = true := intKind_is _ _ _ _
  unfold setAddHashed setAddHashedIn
  refine wpAny_holding (wpAny_bind (wpAny_setState_of ho hd hf' ?_))
  dsimp only
  rw [byScan_of (knd := intKind prog w) (x := .int k tk) rfl hb' hel]
  simp only [↓reduceIte]
  unfold setAddByScan
  refine wpAny_bind ?_
  refine wpAny_bind (wpAny_rule ?_)
  refine wpAny_bind (wpAny_setScan_of (knd := intKind prog w) hkey ho hd hf' hel ?_)
  cases hr : List.findIdx? (fun e => (intKind prog w).is k e.2) (l.map ent).toArray.toList with
  | some j =>
    dsimp only
    obtain ⟨hj, hpj, _⟩ := List.findIdx?_eq_some_iff_getElem.mp hr
    have hk : k ∈ xs := hp.mem_iff.mp ((mem_ent (prog := prog) (w := w) l k).mp ⟨_, List.getElem_mem hj, hpj⟩)
    refine wpAny_pure (wpAny_pure ?_)
    have e : s = { s with heap := s.heap } := by cases s; rfl
    have := h s.heap o (Heap.SameBut.refl a s.heap) ho (by unfold addTo; rw [if_pos hk]; exact hP0)
    rw [decide_eq_true hk] at this
    rw [e]; exact this
  | none =>
    dsimp only
    have hk : k ∉ l.map (·.1) := fun hm => by
      obtain ⟨e, he, hpe⟩ := (mem_ent (prog := prog) (w := w) l k).mpr hm
      have := List.findIdx?_eq_none_iff.mp hr e he
      rw [hpe] at this; cases this
    have hkx : k ∉ xs := fun q => hk (hp.mem_iff.mpr q)
    have hgw : ∀ (b : Bool) {s₁ : Shared} {Q' : Unit → Shared → Prop}, Q' () s₁ → wpAny (model prog w) A (match b with | true => rule "set.scan.the-table-gave-way" | false => pure ()) Q' E s₁ :=
      fun b s₁ Q' hq => by cases b <;> first | exact wpAny_pure hq | exact wpAny_rule hq
    have hperm := layNew_perm t (l.map ent).toArray (hashInt k) (.int k tk)
    have hfits := layNew_fits t (l.map ent).toArray (hashInt k) (.int k tk)
    have hwk := layNew_wk hw (l.map ent).toArray (hashInt k) (.int k tk)
    change wpAny _ _ _ _ _ _
    generalize hL : layNew t (l.map ent).toArray (hashInt k) (.int k tk) = Ly at hperm hfits hwk
    have hL' : layNew t (l.map ent).toArray ((intKind prog w).hash k) (.int k tk) = Ly := hL
    try rw [hL]
    try rw [hL']
    obtain ⟨es1, t1, wasDummy, gave⟩ := Ly
    dsimp only at hperm hfits hwk ⊢
    have hM : ((l.map ent).toArray.push (hashInt k, Value.int k tk)).toList = (l ++ [(k, tk)]).map ent := by rw [Array.toList_push, List.map_append]; rfl
    rw [hM] at hperm
    have hnM : ((l ++ [(k, tk)]).map (·.1)).Nodup := by
      rw [List.map_append]
      refine List.nodup_append.mpr ⟨hnd, by simp, fun x hx y hy => ?_⟩
      simp only [List.map_cons, List.map_nil, List.mem_singleton] at hy
      subst hy
      exact fun q => hk (q ▸ hx)
    have hbM : (l ++ [(k, tk)]).length < scanBound := by rw [List.length_append]; simp only [List.length_cons, List.length_nil]; omega
    have hend : ∀ h' o' l', Heap.SameBut a s.heap h' → h'.get? a = some o' → SetI w o' l' → List.Perm l' (l ++ [(k, tk)]) → Q true { s with heap := h' } := by
      intro h' o' l' hsb ho' hI' hp'
      have hq : List.Perm (l'.map (·.1)) (addTo xs k) := by
        unfold addTo
        rw [if_neg hkx]
        refine (hp'.map (·.1)).trans ?_
        rw [List.map_append]
        exact hp.append_right _
      have := h h' o' hsb ho' ⟨l', hI', hq⟩
      rw [decide_eq_false hkx] at this
      exact this
    refine wpAny_bind (hgw _ ?_)
    split
    · refine wpAny_bind ?_
      rw [hashByValue_scannable 8 (x := .int k tk) rfl]
      refine wpAny_pure ?_
      refine wpAny_addTailP ?_ ho hI0 hperm hnM hbM ?_ ?_ ?_
      · intro b s₁ Q' hq; cases b <;> first | exact wpAny_pure hq | exact wpAny_rule hq
      · exact hfits
      · exact hwk
      · intro h' o' l' hsb ho' hI' hp'; dsimp only; exact wpAny_pure (hend h' o' l' hsb ho' hI' hp')
    · refine wpAny_bind (wpAny_pure ?_)
      simp only [↓reduceIte]
      refine wpAny_addTailP ?_ ho hI0 hperm hnM hbM hfits hwk ?_
      · intro b s₁ Q' hq; cases b <;> first | exact wpAny_pure hq | exact wpAny_rule hq
      · intro h' o' l' hsb ho' hI' hp'; dsimp only; exact wpAny_pure (hend h' o' l' hsb ho' hI' hp')
end
end Mine
end

section
open PySem PySem.W PyProof.Rows PySem.Spec PySem.Calls
set_option Elab.async false
namespace Mine
section
variable {prog : Program} {w : World} {A : Around} {E : Value → Shared → Prop} {s : Shared}

noncomputable abbrev newSetObj (w : World) : Obj := { cls := .type "set", dict := none, data := .set #[] 0 (.fresh 0 0 (!byText w)) }
theorem newSetObj_P (w : World) : SetP w (newSetObj w) [] := by
  refine ⟨[], ⟨0, _, ⟨rfl, rfl, rfl⟩, rfl, by simp, by decide, by rfl, ?_⟩, .refl _⟩
  unfold Wk
  cases h : byText w with
  | true => exact .inl rfl
  | false => exact .inr ⟨rfl, fun _ => List.Pairwise.nil⟩

theorem code_new {Q₁ : Value → Shared → Prop} (h : Q₁ (.ref s.heap.objs.size) { s with heap := s.heap.push (newSetObj w) }) :
    codeAny (model prog w) A (.call (.builtin "set.__new__") ⟨[.type "set"], []⟩) (wants Q₁ E) s := by
  refine codeAny_of_tree ?_
  show wpAny _ A.in1 (do checkBuiltinCall "set.__new__" ⟨[.type "set"], []⟩; again (.builtin "set.__new__" ⟨[.type "set"], []⟩)) _ _ s
  refine wpAny_bind (wpAny_of_eq PySem.F.newCall_set_0 (wpAny_pure ⟨plainId_quiet PySem.F.plain_set_new _, codeAny_builtin PySem.F.entry_set_new ?_⟩))
  rw [Around.under_plainId PySem.F.plain_set_new _]
  unfold Builtin.«set.__new__» Builtin.Frozenset.newClass
  have hsub := sub_set_self
  obtain ⟨hp, g, d, tk, os⟩ := s
  dsimp only
  wp_walk
  refine wpAny_askSetting (wpAny_pure ?_)
  dsimp only
  simp only [newObj]
  refine wpAny_bind (wpAny_alloc (wpAny_pure ?_))
  exact wpAny_pure h

set_option maxHeartbeats 1000000 in
set_option maxRecDepth 100000 in
theorem call_set0 {Q : Value → Shared → Prop} (h : Q (.ref s.heap.objs.size) { s with heap := s.heap.push (newSetObj w) }) : wpAny (model prog w) A (call (.type "set") []) Q E s := by
  obtain ⟨c, tl, hmro⟩ := PySem.F.called_set.mro
  have hmade := PySem.F.called_set.made
  have hsub := PySem.F.called_set.sub
  refine wpAny_call (codeAny_of_tree ?_)
  show wpAny _ _ (callAny (.type "set") _) _ _ _
  refine wpAny_pure ⟨Code.quiet_builtin _ (by decide +kernel), codeAny_builtin PySem.F.entry_type_call ?_⟩
  rw [Around.under_plain (weight_type_call_type "set" [] []) rfl]
  have h1 := PySem.F.called_set.notType
  have h2 := PySem.F.called_set.canCreate
  have hct := PySem.F.typeCall_set_0
  repeat (any_goals (first | assumption | wp_step))
  refine codeAny_mono (code_new (E := E) (Q₁ := fun obj s₁ => obj = .ref s.heap.objs.size ∧ s₁ = { s with heap := s.heap.push (newSetObj w) }) ⟨rfl, rfl⟩) fun r s₁ hr => ?_
  cases r with
  | error e => exact hr
  | ok fl =>
    cases fl with
    | ret obj =>
      obtain ⟨rfl, rfl⟩ := hr
      have hS : (s.heap.push (newSetObj w)).get? s.heap.objs.size = some (newSetObj w) := Heap.get?_push_size _ rfl
      have hT : Shared.TypeIs { s with heap := s.heap.push (newSetObj w) } (.ref s.heap.objs.size) "set" := ⟨_, hS, rfl⟩
      have hli := PySem.F.called_set.init.lookup
      have hbi := PySem.F.called_set.init.bind (.ref s.heap.objs.size)
      repeat (any_goals (first | assumption | wp_step))
      refine codeAny_mono (codeAny_call_builtin (R := wants (fun r s₂ => r = .none ∧ Q (.ref s.heap.objs.size) s₂) E) PySem.F.called_set.init.plain PySem.F.entry_set_init (check_set_init hT ?_)) fun r₂ s₂ hr₂ => ?_
      · unfold Builtin.«set.__init__» noKeywords
        wp_walk
        exact ⟨rfl, h⟩
      · cases r₂ with
        | error e => exact hr₂
        | ok fl₂ =>
          cases fl₂ with
          | ret r =>
            obtain ⟨rfl, hq⟩ := hr₂
            repeat (any_goals (first | assumption | wp_step))
          | _ => exact hr₂.elim
    | _ => exact hr.elim

variable {h₀ : Heap} {L sa : Addr} {m : Str → Option Value} {news : List (Addr × Obj)} {so : Obj} {xs : List Int}

theorem set_new {Q : Value → Shared → Prop} (F : Fr h₀ L s.heap m) (N : News h₀ L s.heap news)
    (h : ∀ D h' o, Fr h₀ L h' m → News h₀ L h' ((D, o) :: news) → (∀ p ∈ news, p.1 < D) → SetP w o [] → Q (.ref D) { s with heap := h' }) :
    wpAny (model prog w) A (call (.type "set") []) Q E s :=
  call_set0 (h _ _ _ (F.push _) (N.push F _) (fun p hp => Heap.lt_size (N p hp).1) (newSetObj_P w))

theorem setOf_P {a : Addr} {o : Obj} {h : Heap} (ho : h.get? a = some o) (hP : SetP w o xs) : h.SetOf (intKind prog w) a (fun k => decide (k ∈ xs)) xs.length := hP.objOf.setOf ho hP.length

/-- s.add(k) -/
theorem call_add {a : Addr} {o : Obj} {k : Int} {tk : Tok} {Q : Value → Shared → Prop} (ho : s.heap.get? a = some o) (hP : SetP w o xs) (hroom : xs.length + 1 < scanBound)
    (h : ∀ h' o', Heap.SameBut a s.heap h' → h'.get? a = some o' → SetP w o' (addTo xs k) → Q .none { s with heap := h', toks := s.toks + 1 }) :
    wpAny (model prog w) A (call (.builtin "set.add") [.ref a, .int k tk]) Q E s := by
  have hT : s.TypeIs (.ref a) "set" := (setOf_P (prog := prog) ho hP).typeIs
  refine wpAny_call_entry PySem.F.slot_set_add hT PySem.F.entry_set_add ?_ (PySem.F.args_set_add_2 _ _)
  unfold Builtin.«set.add» Builtin.Frozenset.oneOther
  simp only [List.isEmpty_nil, bind_assoc]
  unfold Builtin.Frozenset.addrOf setAdd
  refine wpAny_bind (wpAny_pure ?_)
  try dsimp only
  refine wpAny_bind (wpAny_pure ?_)
  try dsimp only
  refine wpAny_bind ?_
  refine wpAny_holding ?_
  refine wpAny_bind ((intKind prog w).pyHash (intKind_is _ _ k tk) ?_)
  refine add_hashed (s := { s with toks := s.toks + 1 }) ho hP hroom fun h' o' hsb ho' hP' => ?_
  show wpAny _ _ (ret Value.none) _ _ _
  exact wpAny_pure ⟨_, rfl, h h' o' hsb ho' hP'⟩

theorem news_split_upd {h h' : Heap} {pre post : List (Addr × Obj)} {o o' : Obj} (F : Fr h₀ L h m) (N : News h₀ L h (pre ++ (sa, o) :: post)) (h1 : ∀ p ∈ pre, p.1 ≠ sa) (h2 : ∀ p ∈ post, p.1 ≠ sa)
    (hs : Heap.SameBut sa h h') (ho : h'.get? sa = some o') : Fr h₀ L h' m ∧ News h₀ L h' (pre ++ (sa, o') :: post) := by
  have D := N (sa, o) (by simp)
  obtain ⟨oL, es, ep, hL, r⟩ := F.ns
  refine ⟨⟨⟨oL, es, ep, (hs.2 L (Ne.symm D.2.1)).trans hL, r⟩, fun b x q => (hs.2 b fun z => ?_).trans (F.keep b x q), F.above⟩, fun p hp => ?_⟩
  · have := D.2.2; rw [← z, q] at this; cases this
  · rcases List.mem_append.mp hp with q | q
    · have P := N p (List.mem_append_left _ q); exact ⟨(hs.2 p.1 (h1 p q)).trans P.1, P.2⟩
    · rcases List.mem_cons.mp q with rfl | q
      · exact ⟨ho, D.2⟩
      · have P := N p (List.mem_append_right _ (.tail _ q)); exact ⟨(hs.2 p.1 (h2 p q)).trans P.1, P.2⟩

theorem set_add {k : Int} {tk : Tok} {g : Obj → List (Addr × Obj)} {Q : Value → Shared → Prop} (F : Fr h₀ L s.heap m) (N : News h₀ L s.heap news) (U : UpdF sa so news g) (hP : SetP w so xs) (hroom : xs.length + 1 < scanBound)
    (h : ∀ h' so', Fr h₀ L h' m → News h₀ L h' (g so') → SetP w so' (addTo xs k) → Q .none { s with heap := h', toks := s.toks + 1 }) :
    wpAny (model prog w) A (call (.builtin "set.add") [.ref sa, .int k tk]) Q E s := by
  obtain ⟨pre, post, rfl, hg, a, b⟩ := U.split
  refine call_add (N (sa, so) (by simp)).1 hP hroom fun h' so' hsb ho' hP' => ?_
  obtain ⟨F', N'⟩ := news_split_upd F N a b hsb ho'
  exact h h' so' F' (hg so' ▸ N') hP'
theorem set_method {pl : Sem Bool} {Q : Value × List Value → Shared → Prop} (N : News h₀ L s.heap news) (hm : (sa, so) ∈ news) (hP : SetP w so xs) (h : Q (.builtin "set.add", [.ref sa]) s) :
    wpAny (model prog w) A (getMethod (.ref sa) "add" pl) Q E s :=
  getMethod_set_add (setOf_P (prog := prog) (N _ hm).1 hP) h
theorem set_in {k : Int} {tk : Tok} {Q : Value → Shared → Prop} (N : News h₀ L s.heap news) (hm : (sa, so) ∈ news) (hP : SetP w so xs) (h : Q (.bool (decide (k ∈ xs))) { s with toks := s.toks + 1 }) :
    wpAny (model prog w) A (compareOp .In (.int k tk) (.ref sa)) Q E s :=
  wpAny_inSet_of (knd := intKind prog w) (intKind_is _ _ _ _) rfl (setOf_P (N _ hm).1 hP) h
end
end Mine
end

section
open PySem PySem.W PyProof.Rows PySem.Spec PySem.Calls
set_option Elab.async false
namespace Mine
theorem slot_setit_next : Slot "set_iterator" "__next__" "set_iterator.__next__" :=
  .of (owner := "set_iterator") (n := "__next__") (by rw [typeLookup_type, builtinLookup_eq_fast]; kernel_rfl) (by decide +kernel) (by decide +kernel) (by decide +kernel)
    (by first | exact .inl (by decide +kernel) | exact .inr (by decide +kernel)) (by rw [isSubtype_type]; kernel_rfl)
theorem slot_setit_iter : Slot "set_iterator" "__iter__" "set_iterator.__iter__" :=
  .of (owner := "set_iterator") (n := "__iter__") (by rw [typeLookup_type, builtinLookup_eq_fast]; kernel_rfl) (by decide +kernel) (by decide +kernel) (by decide +kernel)
    (by first | exact .inl (by decide +kernel) | exact .inr (by decide +kernel)) (by rw [isSubtype_type]; kernel_rfl)
theorem entry_setit_next : entryFor table "set_iterator.__next__" = some Builtin.«set_iterator.__next__» := entryFor_of_tree (by kernel_rfl)
theorem args_setit_next (a : Value) : argsOk "set_iterator.__next__" ⟨[a], []⟩ := by unfold argsOk; kernel_rfl
theorem args_setit_iter (a : Value) : argsOk "set_iterator.__iter__" ⟨[a], []⟩ := by unfold argsOk; kernel_rfl
theorem entry_set_iter : entryFor table "set.__iter__" = some Builtin.«frozenset.__iter__» :=
  entryFor_alias (id' := "frozenset.__iter__") (by kernel_rfl) rfl (by rw [PySem.W.Fast.canonicalY_eq]; decide +kernel) (by kernel_rfl)

section
variable {prog : Program} {w : World} {A : Around} {E : Value → Shared → Prop} {s : Shared}

theorem wpAny_choose {M : Model} {src : Source} {n : Nat} {Q : Nat → Shared → Prop} (hn : n ≠ 0) (h : ∀ i, i < n → ∀ d, Q i { s with drawn := d }) : wpAny M A (choose src n) Q E s := fun Γ p _ => by
  unfold choose
  rw [PySem.Sem.wp_choose]
  exact ⟨hn, h _ (Nat.mod_lt _ (Nat.pos_of_ne_zero hn)) _⟩

theorem perm_eraseIdx {α : Type} : ∀ {l : List α} {i : Nat} (h : i < l.length), List.Perm (l[i] :: l.eraseIdx i) l
  | [], _, h => absurd h (Nat.not_lt_zero _)
  | _ :: _, 0, _ => .refl _
  | x :: l, i + 1, h => by
    simp only [List.getElem_cons_succ, List.eraseIdx_cons_succ]
    exact (List.Perm.swap _ _ _).trans ((perm_eraseIdx (l := l) (i := i) (by simpa using h)).cons x)
theorem drawOrder_perm {α : Type} {M : Model} : ∀ (n : Nat) (xs : List α) (s : Shared) (Q : List α → Shared → Prop), n = xs.length → (∀ ys d, List.Perm ys xs → Q ys { s with drawn := d }) → wpAny M A (drawOrder n xs) Q E s := by
  intro n
  induction n with
  | zero =>
    intro xs s Q e h
    cases xs with
    | nil => exact wpAny_pure (h [] s.drawn (.refl _))
    | cons _ _ => cases e
  | succ n ih =>
    intro xs s Q e h
    cases xs with
    | nil => cases e
    | cons x xs =>
      unfold drawOrder
      refine wpAny_bind (wpAny_choose (by simp) fun i hi d => ?_)
      rw [List.getElem?_eq_getElem hi]
      dsimp only
      refine wpAny_bind (ih _ _ _ ?_ fun ys d' hp => wpAny_pure ?_)
      · rw [List.length_eraseIdx_of_lt hi]; simpa using e
      · refine h _ d' ((hp.cons _).trans ?_)
        exact perm_eraseIdx hi

theorem pickOrder_go {α : Type} (next : Nat → Nat) : ∀ (fuel k : Nat) (left : List α) (out : Array α), fuel = left.length → List.Perm (pickOrder.go next fuel k left out).toList (out.toList ++ left) := by
  intro fuel
  induction fuel with
  | zero =>
    intro k left out e
    cases left with
    | nil => unfold pickOrder.go; simp
    | cons _ _ => cases e
  | succ fuel ih =>
    intro k left out e
    unfold pickOrder.go
    have hlt : next k % left.length < left.length := Nat.mod_lt _ (by omega)
    rw [List.getElem?_eq_getElem hlt]
    dsimp only
    refine (ih _ _ _ (by rw [List.length_eraseIdx_of_lt hlt]; omega)).trans ?_
    rw [Array.toList_push, List.append_assoc]
    refine List.Perm.append_left _ ?_
    exact perm_eraseIdx hlt
theorem pickOrder_perm {α : Type} (next : Nat → Nat) (xs : Array α) : List.Perm (pickOrder next xs).toList xs.toList := by
  unfold pickOrder
  have := pickOrder_go next xs.size 0 xs.toList #[] (by simp)
  simpa using this

/-- the iterator I over the set a: its fields -/
noncomputable def SetIt (h : Heap) (I a : Addr) (first : Value) (i n ep : Nat) : Prop :=
  ∃ o, h.get? I = some o ∧ o.cls = .type "set_iterator" ∧ o.data = .fields #[first, .int i 0, .ref a, .int n 0, .int ep 0]
theorem SetIt.typeIs {I a : Addr} {first : Value} {i n ep : Nat} (x : SetIt s.heap I a first i n ep) : s.TypeIs (.ref I) "set_iterator" := let ⟨o, ho, hc, _⟩ := x; ⟨o, ho, hc⟩
theorem SetIt.at {h h' : Heap} {I a : Addr} {first : Value} {i n ep : Nat} (x : SetIt h I a first i n ep) (e : ∀ o, h.get? I = some o → h'.get? I = some o) : SetIt h' I a first i n ep := let ⟨o, ho, r⟩ := x; ⟨o, e o ho, r⟩

/-- one step: the slot's kind (by the table, or by the text's order) -/
theorem next_slot {I a : Addr} {slot nx i ep : Nat} {o : Obj} {es : Array (Int × Value)} {t : SetTable} {x : Value} {Q : Option Value → Shared → Prop} (hit : SetIt s.heap I a (.int slot 0) i es.size ep) 
    (ho : s.heap.get? a = some o) (hd : o.data = .set es ep t) (hf : t.fits es.size = true)
    (hQ : ∀ h', SetIt h' I a (.int nx 0) (i + 1) es.size ep → Heap.SameBut I s.heap h' → Q (some x) { s with heap := h' })
    (hE : ∀ {Q' : Option (Value × Nat) → Shared → Prop} {E' : Value → Shared → Prop} (A : Around), Q' (some (x, nx)) s → wpAny (model prog w) A (setNext a slot i ep) Q' E' s) :
    wpAny (model prog w) A (pyNext (.ref I)) Q E s := by
  obtain ⟨oi, hoi, hc, hdi⟩ := id hit
  unfold pyNext
  refine wpAny_bind (wpAny_attempt (wpAny_callSpecial?_slot (name := Str.ofString "__next__") hit.typeIs slot_setit_next
    (wpAny_call_entry slot_setit_next hit.typeIs entry_setit_next ?_ (args_setit_next _))))
  unfold Builtin.«set_iterator.__next__»
  refine wpAny_bind (wpAny_pure ?_)
  refine wpAny_bind (wpAny_fieldsOf hoi hdi ?_)
  dsimp only
  refine wpAny_bind (wpAny_setEntries_of ho hd hf ?_)
  rw [if_neg (by simp)]
  simp only [Int.toNat_natCast]
  refine wpAny_bind (hE _ ?_)
  dsimp only
  refine wpAny_bind (wpAny_setField hoi hdi (by simp) ?_)
  have h1 : (s.heap.update I (Obj.mapFields (·.setIfInBounds 0 (rawInt nx)))).get? I = some (Obj.mapFields (·.setIfInBounds 0 (rawInt nx)) oi) :=
    Heap.get?_update_self _ hoi (Obj.isFreed_of_fields (Obj.data_mapFields hdi _))
  have d1 : (Obj.mapFields (·.setIfInBounds 0 (rawInt nx)) oi).data = .fields #[.int nx 0, .int i 0, .ref a, .int es.size 0, .int ep 0] := by rw [Obj.data_mapFields hdi]; rfl
  refine wpAny_bind (wpAny_setField h1 d1 (by simp) ?_)
  refine wpAny_pure ⟨x, rfl, wpAny_pure (hQ _ ?_ ((Heap.SameBut.update ..).trans (Heap.SameBut.update ..)))⟩
  refine ⟨_, Heap.get?_update_self _ h1 (Obj.isFreed_of_fields (Obj.data_mapFields d1 _)), ?_, ?_⟩
  · rw [Obj.cls_mapFields, Obj.cls_mapFields]; exact hc
  · rw [Obj.data_mapFields d1]; rfl

theorem end_raise {α : Type} (hh : A.handled = none) {Q : α → Shared → Prop} {E' : Value → Shared → Prop} (he : ∀ e h', Shared.TypeIs { s with heap := h' } (.ref e) "StopIteration" → (∀ b o, s.heap.get? b = some o → h'.get? b = some o) → E' (.ref e) { s with heap := h' }) :
    wpAny (model prog w) A (newExc (.type "StopIteration") [] >>= fun e => (raiseNew e : Sem α)) Q E' s := by
  refine wpAny_bind ?_
  simp only [newExc, newTuple]
  refine wpAny_bind (wpAny_newObj_type ?_ (by size_fits))
  refine wpAny_bind (m := firstArgMember _ _) (wpAny_of_eq (a := Value.none) (by first | rfl | (simp only [firstArgMember]; rfl)) ?_)
  refine wpAny_newObj_type ?_ (by size_fits)
  refine wpAny_raiseNew_none hh (he _ _ ⟨_, Heap.get?_push_size _ rfl, rfl⟩ fun b o e => ?_)
  exact Heap.get?_push_of_some _ (Heap.get?_push_of_some _ e)

theorem next_end {I a : Addr} {slot i ep : Nat} {o : Obj} {es : Array (Int × Value)} {t : SetTable} {Q : Option Value → Shared → Prop} (hh : A.handled = none) (hit : SetIt s.heap I a (.int slot 0) i es.size ep) 
    (ho : s.heap.get? a = some o) (hd : o.data = .set es ep t) (hf : t.fits es.size = true)
    (hE : ∀ {Q' : Option (Value × Nat) → Shared → Prop} {E' : Value → Shared → Prop} (A : Around), Q' none s → wpAny (model prog w) A (setNext a slot i ep) Q' E' s)
    (hQ : ∀ h', Heap.ExtBut I s.heap h' → Q none { s with heap := h' }) :
    wpAny (model prog w) A (pyNext (.ref I)) Q E s := by
  obtain ⟨oi, hoi, hc, hdi⟩ := id hit
  unfold pyNext
  refine wpAny_bind (wpAny_attempt (wpAny_callSpecial?_slot (name := Str.ofString "__next__") hit.typeIs slot_setit_next
    (wpAny_call_entry slot_setit_next hit.typeIs entry_setit_next ?_ (args_setit_next _))))
  unfold Builtin.«set_iterator.__next__»
  refine wpAny_bind (wpAny_pure ?_)
  refine wpAny_bind (wpAny_fieldsOf hoi hdi ?_)
  dsimp only
  refine wpAny_bind (wpAny_setEntries_of ho hd hf ?_)
  rw [if_neg (by simp)]
  simp only [Int.toNat_natCast]
  refine wpAny_bind (hE _ ?_)
  dsimp only
  refine wpAny_bind (wpAny_setField hoi hdi (by simp) ?_)
  refine end_raise (A := A.in1) (show A.in1.handled = none from hh) fun e h' hT hk => ?_
  refine wpAny_bind (wpAny_isInstance (T := "StopIteration") (b := true) hT isSubtype_stop ?_)
  exact wpAny_pure (hQ _ fun b o hb he => hk b o ((Heap.get?_update_ne _ _ _ _ hb).trans he))

/-- the drawn order: the places stand in a tuple -/
theorem next_drawn {I a T : Addr} {i ep p : Nat} {o : Obj} {es : Array (Int × Value)} {t : SetTable} {x : Int × Value} {ps : List Nat} {oT : Obj} {nT : Nat} {Q : Option Value → Shared → Prop} (hit : SetIt s.heap I a (.ref T) i es.size ep)
    (ho : s.heap.get? a = some o) (hd : o.data = .set es ep t) (hf : t.fits es.size = true) (hT : s.heap.get? T = some oT) (hdT : oT.data = .seq (ps.map fun (i : Nat) => rawInt i).toArray nT)
    (hp : ps[i]? = some p) (hx : es[p]? = some x)
    (hQ : ∀ h', SetIt h' I a (.ref T) (i + 1) es.size ep → Heap.SameBut I s.heap h' → Q (some x.2) { s with heap := h' }) :
    wpAny (model prog w) A (pyNext (.ref I)) Q E s := by
  obtain ⟨oi, hoi, hc, hdi⟩ := id hit
  unfold pyNext
  refine wpAny_bind (wpAny_attempt (wpAny_callSpecial?_slot (name := Str.ofString "__next__") hit.typeIs slot_setit_next
    (wpAny_call_entry slot_setit_next hit.typeIs entry_setit_next ?_ (args_setit_next _))))
  unfold Builtin.«set_iterator.__next__»
  refine wpAny_bind (wpAny_pure ?_)
  refine wpAny_bind (wpAny_fieldsOf hoi hdi ?_)
  dsimp only
  refine wpAny_bind (wpAny_setEntries_of ho hd hf ?_)
  rw [if_neg (by simp)]
  simp only [Int.toNat_natCast]
  refine wpAny_bind (wpAny_seqItems hT hdT ?_)
  have e1 : (ps.map fun (i : Nat) => rawInt i).toArray[i]? = some (.int p 0) := by
    rw [List.getElem?_toArray, List.getElem?_map, hp]; rfl
  dsimp only
  rw [e1]
  dsimp only
  simp only [Int.toNat_natCast]
  refine wpAny_bind ?_
  unfold setNextDrawn
  refine wpAny_bind (wpAny_setState_of ho hd hf ?_)
  dsimp only
  rw [if_neg (by simp), hx]
  refine wpAny_pure ?_
  refine wpAny_bind (wpAny_setField hoi hdi (by simp) ?_)
  refine wpAny_pure ⟨_, rfl, wpAny_pure (hQ _ ?_ (Heap.SameBut.update ..))⟩
  refine ⟨_, Heap.get?_update_self _ hoi (Obj.isFreed_of_fields (Obj.data_mapFields hdi _)), ?_, ?_⟩
  · rw [Obj.cls_mapFields]; exact hc
  · rw [Obj.data_mapFields hdi]; rfl
theorem end_drawn {I a T : Addr} {i ep : Nat} {o : Obj} {es : Array (Int × Value)} {t : SetTable} {ps : List Nat} {oT : Obj} {nT : Nat} {Q : Option Value → Shared → Prop} (hh : A.handled = none) (hit : SetIt s.heap I a (.ref T) i es.size ep)
    (ho : s.heap.get? a = some o) (hd : o.data = .set es ep t) (hf : t.fits es.size = true) (hT : s.heap.get? T = some oT) (hdT : oT.data = .seq (ps.map fun (i : Nat) => rawInt i).toArray nT)
    (hp : ps[i]? = none) (hQ : ∀ h', Heap.ExtBut I s.heap h' → Q none { s with heap := h' }) :
    wpAny (model prog w) A (pyNext (.ref I)) Q E s := by
  obtain ⟨oi, hoi, hc, hdi⟩ := id hit
  unfold pyNext
  refine wpAny_bind (wpAny_attempt (wpAny_callSpecial?_slot (name := Str.ofString "__next__") hit.typeIs slot_setit_next
    (wpAny_call_entry slot_setit_next hit.typeIs entry_setit_next ?_ (args_setit_next _))))
  unfold Builtin.«set_iterator.__next__»
  refine wpAny_bind (wpAny_pure ?_)
  refine wpAny_bind (wpAny_fieldsOf hoi hdi ?_)
  dsimp only
  refine wpAny_bind (wpAny_setEntries_of ho hd hf ?_)
  rw [if_neg (by simp)]
  simp only [Int.toNat_natCast]
  refine wpAny_bind (wpAny_seqItems hT hdT ?_)
  have e1 : (ps.map fun (i : Nat) => rawInt i).toArray[i]? = none := by
    rw [List.getElem?_toArray, List.getElem?_map, hp]; rfl
  dsimp only
  rw [e1]
  dsimp only
  refine wpAny_bind (wpAny_setField hoi hdi (by simp) ?_)
  have h1 : (s.heap.update I (Obj.mapFields (·.setIfInBounds 0 (rawInt 0)))).get? I = some (Obj.mapFields (·.setIfInBounds 0 (rawInt 0)) oi) :=
    Heap.get?_update_self _ hoi (Obj.isFreed_of_fields (Obj.data_mapFields hdi _))
  have d1 : (Obj.mapFields (·.setIfInBounds 0 (rawInt 0)) oi).data = .fields #[.int 0 0, .int i 0, .ref a, .int es.size 0, .int ep 0] := by rw [Obj.data_mapFields hdi]; rfl
  refine wpAny_bind (wpAny_setField h1 d1 (by simp) ?_)
  refine end_raise (A := A.in1) (show A.in1.handled = none from hh) fun e h' hT hk => ?_
  refine wpAny_bind (wpAny_isInstance (T := "StopIteration") (b := true) hT isSubtype_stop ?_)
  exact wpAny_pure (hQ _ fun b o hb he => hk b o ((Heap.get?_update_ne _ _ _ _ hb).trans ((Heap.get?_update_ne _ _ _ _ hb).trans he)))
end
end Mine
end

section
open PySem PySem.W PyProof.Rows PySem.Spec PySem.Calls
set_option Elab.async false
namespace Mine
theorem entry_setit_iter : entryFor table "set_iterator.__iter__" = some Builtin.«dict_keyiterator.__iter__» :=
  entryFor_alias (id' := "dict_keyiterator.__iter__") (by kernel_rfl) rfl (by rw [PySem.W.Fast.canonicalY_eq]; decide +kernel) (by kernel_rfl)
section
variable {prog : Program} {w : World} {A : Around} {E : Value → Shared → Prop} {s : Shared}
theorem iter_setit {I a : Addr} {first : Value} {i n ep : Nat} {Q : Value → Shared → Prop} (hit : SetIt s.heap I a first i n ep) (h : Q (.ref I) s) : wpAny (model prog w) A (pyIter (.ref I)) Q E s := by
  refine wpAny_pyIter_slot hit.typeIs slot_setit_iter (wpAny_call_entry slot_setit_iter hit.typeIs entry_setit_iter ?_ (args_setit_iter _))
  show wpAny _ _ (ret (.ref I)) _ _ s
  exact wpAny_pure ⟨_, rfl, "set_iterator", _, hit.typeIs, slot_setit_next.lookup, h⟩

/-- the places that an order by slots takes -/
noncomputable def AtSlot (t : SetTable) (slot i : Nat) : Prop := SetTable.below t.place slot = i

theorem nextT {a : Addr} {o : Obj} {es : Array (Int × Value)} {ep i : Nat} {t : SetTable} (hb : byText w = true) (ho : s.heap.get? a = some o) (hd : o.data = .set es ep t) (hf : t.fits es.size = true)
    {Q : Option (Value × Nat) → Shared → Prop} (h : Q (((pickOrder (w.params.setOrder a ep) es)[i]?).map fun e => (e.2, 0)) s) : wpAny (model prog w) A (setNext a 0 i ep) Q E s := by
  have st : ∀ {Q' : Bool → Shared → Prop}, Q' true s → wpAny (model prog w) A setsByText Q' E s := fun hq => by
    unfold setsByText
    refine wpAny_bind (wpAny_askSetting (wpAny_pure ?_))
    have hb' : (model prog w).w.params.followText "set-order" = _ := hb
    dsimp only
    rw [hb']; exact hq
  unfold setNext
  refine wpAny_bind (wpAny_setState_of ho hd hf ?_)
  dsimp only
  refine wpAny_bind (st ?_)
  simp only [↓reduceIte]
  rw [if_neg (by simp)]
  refine wpAny_bind ?_
  unfold setWalk
  refine wpAny_bind (wpAny_setState_of ho hd hf ?_)
  dsimp only
  refine wpAny_bind (st ?_)
  simp only [↓reduceIte]
  refine wpAny_bind (wpAny_askSetting (wpAny_pure (wpAny_pure h)))

theorem nextP {a : Addr} {o : Obj} {es : Array (Int × Value)} {ep slot i : Nat} {t : SetTable} (hb : byText w = false) (hl : t.led = true) (hp : (!t.plain && decide (es.size > 1)) = false) (ho : s.heap.get? a = some o) (hd : o.data = .set es ep t) (hf : t.fits es.size = true)
    {Q : Option (Value × Nat) → Shared → Prop} (h : Q (match es[SetTable.below t.place slot]?, t.place[SetTable.below t.place slot]? with | some (_, x), some j => some (x, j + 1) | _, _ => none) s) : wpAny (model prog w) A (setNext a slot i ep) Q E s := by
  have st : ∀ {Q' : Bool → Shared → Prop}, Q' false s → wpAny (model prog w) A setsByText Q' E s := fun hq => by
    unfold setsByText
    refine wpAny_bind (wpAny_askSetting (wpAny_pure ?_))
    have hb' : (model prog w).w.params.followText "set-order" = _ := hb
    dsimp only
    rw [hb']; exact hq
  unfold setNext
  refine wpAny_bind (wpAny_setState_of ho hd hf ?_)
  dsimp only
  refine wpAny_bind (st ?_)
  simp only [Bool.false_eq_true, ↓reduceIte]
  show wpAny _ _ (if (!t.plain && decide (es.size > 1)) = true then _ else _) _ _ s
  rw [if_neg (by rw [hp]; exact Bool.false_ne_true)]
  show wpAny _ _ ((if (!t.led && !es.isEmpty) = true then _ else _) >>= _) _ _ s
  rw [if_neg (by rw [hl]; simp)]
  refine wpAny_bind (wpAny_pure ?_)
  exact wpAny_pure h

variable {o : Obj} {l : List (Int × Tok)} {a : Addr}
noncomputable def PAt (l' : List (Int × Tok)) (i : Nat) (v : Value) : Prop := ∃ p, l'[i]? = some p ∧ v = .int p.1 p.2

theorem walks_setT {I : Addr} (hne : a ≠ I) {ep : Nat} {t : SetTable} (hb : byText w = true) (hd : o.data = .set (l.map ent).toArray ep t) (hf : t.fits l.length = true) :
    ∃ l', List.Perm l' l ∧ ∀ A : Around, A.handled = none → Walks prog w A I [I, a] [I] l.length (PAt l') (fun i h => SetIt h I a (.int 0 0) i (l.map ent).toArray.size ep ∧ h.get? a = some o) := by
  obtain ⟨l', hp, he⟩ := perm_of_map (pickOrder_perm (w.params.setOrder a ep) (l.map ent).toArray) rfl
  have hf' : t.fits (l.map ent).toArray.size = true := by simpa using hf
  have hget : ∀ i, (pickOrder (w.params.setOrder a ep) (l.map ent).toArray)[i]? = (l'[i]?).map ent := fun i => by
    rw [← Array.getElem?_toList, he, List.getElem?_map]
  have hlen : l'.length = l.length := hp.length_eq
  refine ⟨l', hp, fun A hh => ⟨?_, ?_, ?_, ?_, ?_⟩⟩
  · exact fun b hb => by simp at hb; simp [hb]
  · exact fun _ _ _ st hk => ⟨st.1.at fun o e => hk I (by simp) o e, hk a (by simp) _ st.2⟩
  · intro i s Q E hi st hQ
    have hg : l'[i]? = some l'[i] := List.getElem?_eq_getElem (by lia)
    refine next_slot (nx := 0) (x := .int l'[i].1 l'[i].2) st.1 st.2 hd hf' (fun h' hit' hs' => ?_) (fun A' hq => nextT hb st.2 hd hf' ?_)
    · exact hQ _ h' s.toks ⟨_, hg, rfl⟩ ⟨hit', (hs'.2 a hne).trans st.2⟩ fun b o hb e => (hs'.2 b fun h => hb (by simp [h])).trans e
    · rw [hget, hg]; exact hq
  · intro s Q E st hQ
    refine next_end hh st.1 st.2 hd hf' (fun A' hq => nextT hb st.2 hd hf' ?_) fun h' he' => hQ h' s.toks fun b o hb e => he' b o (fun h => hb (by simp [h])) e
    rw [hget, List.getElem?_eq_none (by lia)]; exact hq
  · exact fun _ _ _ _ st hQ => iter_setit st.1 hQ

theorem walks_setP {I : Addr} (hh : A.handled = none) (hne : a ≠ I) {ep : Nat} {t : SetTable} (hb : byText w = false) (hl : t.led = true) (hp : (!t.plain && decide ((l.map ent).toArray.size > 1)) = false) (hr : Rises t.place) (hd : o.data = .set (l.map ent).toArray ep t) (hf : t.fits l.length = true) :
    Walks prog w A I [I, a] [I] l.length (PAt l) (fun i h => ∃ slot : Nat, SetIt h I a (.int slot 0) i (l.map ent).toArray.size ep ∧ h.get? a = some o ∧ SetTable.below t.place slot = i) := by
  have hf' : t.fits (l.map ent).toArray.size = true := by simpa using hf
  have hsz : t.place.size = l.length := by
    simp only [SetTable.fits, Bool.and_eq_true, beq_iff_eq] at hf; exact hf.1
  have hget : ∀ i, (l.map ent).toArray[i]? = (l[i]?).map ent := fun i => by rw [List.getElem?_toArray, List.getElem?_map]
  refine ⟨?_, ?_, ?_, ?_, ?_⟩
  · exact fun b hb => by simp at hb; simp [hb]
  · rintro _ _ _ ⟨slot, h1, h2, h3⟩ hk
    exact ⟨slot, h1.at fun o e => hk I (by simp) o e, hk a (by simp) _ h2, h3⟩
  · rintro i s Q E hi ⟨slot, h1, h2, h3⟩ hQ
    have hg : l[i]? = some l[i] := List.getElem?_eq_getElem hi
    have hpl : t.place[i]? = some (t.place[i]'(by lia)) := Array.getElem?_eq_getElem (by lia)
    refine next_slot (nx := t.place[i]'(by lia) + 1) (x := .int l[i].1 l[i].2) h1 h2 hd hf' (fun h' hit' hs' => ?_) (fun A' hq => nextP hb hl hp h2 hd hf' ?_)
    · refine hQ _ h' s.toks ⟨_, hg, rfl⟩ ⟨_, hit', (hs'.2 a hne).trans h2, ?_⟩ fun b o hb e => (hs'.2 b fun h => hb (by simp [h])).trans e
      refine below_eq hr (fun k b hk hkb => ?_) (fun k b hk hkb => ?_) (by lia)
      · rcases Nat.lt_or_ge k i with q | q
        · have := rises_get hr q hkb hpl; lia
        · have : k = i := by lia
          subst this
          rw [hpl] at hkb; injection hkb with hkb; lia
      · have := rises_get hr (show i < k by lia) hpl hkb; lia
    · rw [h3, hget, hg, hpl]; exact hq
  · rintro s Q E ⟨slot, h1, h2, h3⟩ hQ
    refine next_end hh h1 h2 hd hf' (fun A' hq => nextP hb hl hp h2 hd hf' ?_) fun h' he' => hQ h' s.toks fun b o hb e => he' b o (fun h => hb (by simp [h])) e
    rw [h3, hget, List.getElem?_eq_none (Nat.le_refl _)]; exact hq
  · rintro _ _ _ _ ⟨slot, h1, _⟩ hQ
    exact iter_setit h1 hQ

theorem walks_setD {I T : Addr} (hne : a ≠ I) (hneT : T ≠ I) {ep : Nat} {t : SetTable} {ps : List Nat} (hps : List.Perm ps (List.range l.length)) (hd : o.data = .set (l.map ent).toArray ep t) (hf : t.fits l.length = true) :
    ∃ l', List.Perm l' l ∧ ∀ A : Around, A.handled = none → Walks prog w A I [I, a, T] [I] l.length (PAt l') (fun i h => SetIt h I a (.ref T) i (l.map ent).toArray.size ep ∧ h.get? a = some o ∧ h.get? T = some { cls := .type "tuple", data := .seq (ps.map fun (i : Nat) => rawInt i).toArray }) := by
  have hf' : t.fits (l.map ent).toArray.size = true := by simpa using hf
  have hp : List.Perm (ps.filterMap fun j : Nat => l[j]?) l := by
    refine (hps.filterMap _).trans ?_
    rw [List.filterMap_getElem?_range_length]
  have hlt : ∀ p ∈ ps, p < l.length := fun p h => by have := hps.mem_iff.mp h; simpa using this
  have hget : ∀ (i p : Nat), ps[i]? = some p → (ps.filterMap fun j : Nat => l[j]?)[i]? = l[p]? := by
    have : ∀ (ps : List Nat), (∀ p ∈ ps, p < l.length) → ∀ (i p : Nat), ps[i]? = some p → (ps.filterMap fun j : Nat => l[j]?)[i]? = l[p]? := by
      intro ps
      induction ps with
      | nil => intro _ i p h; simp at h
      | cons q ps ih =>
        intro hq i p h
        have hql := hq q (.head _)
        rw [List.filterMap_cons_some (b := l[q]) (List.getElem?_eq_getElem hql)]
        cases i with
        | zero => simp at h; subst h; simp [hql]
        | succ i => simpa using ih (fun p hp => hq p (.tail _ hp)) i p (by simpa using h)
    exact this ps hlt
  have hlen : ps.length = l.length := by rw [hps.length_eq, List.length_range]
  refine ⟨_, hp, fun A hh => ⟨?_, ?_, ?_, ?_, ?_⟩⟩
  · exact fun b hb => by simp at hb; simp [hb]
  · exact fun _ _ _ st hk => ⟨st.1.at fun o e => hk I (by simp) o e, hk a (by simp) _ st.2.1, hk T (by simp) _ st.2.2⟩
  · intro i s Q E hi st hQ
    have hg : ps[i]? = some ps[i] := List.getElem?_eq_getElem (by lia)
    have hx : l[ps[i]]? = some (l[ps[i]]'(hlt _ (List.getElem_mem _))) := List.getElem?_eq_getElem _
    have hx' : (l.map ent).toArray[ps[i]]? = some (ent (l[ps[i]]'(hlt _ (List.getElem_mem _)))) := by rw [List.getElem?_toArray, List.getElem?_map, hx]; rfl
    refine next_drawn st.1 st.2.1 hd hf' st.2.2 rfl hg hx' fun h' hit' hs' => ?_
    exact hQ _ h' s.toks ⟨_, (hget i _ hg).trans hx, rfl⟩ ⟨hit', (hs'.2 a hne).trans st.2.1, (hs'.2 T hneT).trans st.2.2⟩ fun b o hb e => (hs'.2 b fun h => hb (by simp [h])).trans e
  · intro s Q E st hQ
    exact end_drawn hh st.1 st.2.1 hd hf' st.2.2 rfl (List.getElem?_eq_none (by lia)) fun h' he' => hQ h' s.toks fun b o hb e => he' b o (fun h => hb (by simp [h])) e
  · exact fun _ _ _ _ st hQ => iter_setit st.1 hQ
end
end Mine
end

section
open PySem PySem.W PyProof.Rows PySem.Spec PySem.Calls
set_option Elab.async false
namespace Mine
section
variable {prog : Program} {w : World} {A : Around} {E : Value → Shared → Prop} {s : Shared} {o : Obj} {l : List (Int × Tok)} {a : Addr}

theorem setDrawn_of {ep : Nat} {es : Array (Int × Value)} {t : SetTable} {Q : Bool → Shared → Prop} (ho : s.heap.get? a = some o) (hd : o.data = .set es ep t) (hf : t.fits es.size = true)
    (h : Q (!byText w && (!t.plain && decide (es.size > 1))) s) : wpAny (model prog w) A (setDrawn a) Q E s := by
  unfold setDrawn
  refine wpAny_bind (wpAny_setState_of ho hd hf ?_)
  dsimp only
  unfold setsByText
  refine wpAny_bind (wpAny_bind (wpAny_askSetting (wpAny_pure ?_)))
  exact wpAny_pure h

theorem set_size_le {n : Nat} (h : n < scanBound) : n ≤ sizeLine := fits_of_scanBound h

theorem pyIter_set {Q : Value → Shared → Prop} (ho : s.heap.get? a = some o) (hI : SetI w o l)
    (hQ : ∀ (I : Addr) (fp : List Addr) (St : Nat → Heap → Prop) (l' : List (Int × Tok)) (h' : Heap) (d : Drawn), List.Perm l' l → (∀ A : Around, A.handled = none → Walks prog w A I fp [I] l.length (PAt l') St) → St 0 h' →
      (∀ b o, s.heap.get? b = some o → h'.get? b = some o) → (∀ b ∈ fp, b = a ∨ s.heap.objs.size ≤ b) → s.heap.objs.size ≤ I → I ∈ fp → (∀ i h, St i h → ∃ o, h.get? I = some o) → (∀ b ∈ fp, b < h'.objs.size) → Q (.ref I) { s with heap := h', drawn := d }) :
    wpAny (model prog w) A (pyIter (.ref a)) Q E s := by
  obtain ⟨ep, t, hc, hd, hn, hb, hf, hw⟩ := hI
  have hf' : t.fits (l.map ent).toArray.size = true := by simpa using hf
  have hT : s.TypeIs (.ref a) "set" := ⟨o, ho, hc.1⟩
  have hlt : a < s.heap.objs.size := Heap.lt_size ho
  have hsz : (l.map ent).toArray.size = l.length := by simp
  refine wpAny_pyIter_slot hT PySem.F.slot_set_iter (wpAny_call_entry PySem.F.slot_set_iter hT entry_set_iter ?_ (PySem.F.args_set_iter_1 _))
  unfold Builtin.«frozenset.__iter__» Builtin.Frozenset.slot0 slotArgs
  simp only [List.isEmpty_nil, Bool.not_true, Bool.false_eq_true, ↓reduceIte, bind_assoc, List.length_nil, bne_self_eq_false]
  unfold Builtin.Frozenset.addrOf Builtin.Frozenset.sizeOf
  refine wpAny_bind (wpAny_pure ?_)
  try dsimp only
  refine wpAny_bind (wpAny_pure ?_)
  refine wpAny_bind (wpAny_bind (wpAny_setEntries_of ho hd hf' (wpAny_pure ?_)))
  refine wpAny_bind (setDrawn_of ho hd hf' ?_)
  cases hdr : (!byText w && (!t.plain && decide ((l.map ent).toArray.size > 1))) with
  | true =>
    simp only [↓reduceIte]
    refine wpAny_bind (drawOrder_perm _ _ _ _ (by simp) fun ps d hps => ?_)
    have hlen : ps.length = l.length := by rw [hps.length_eq, List.length_range, hsz]
    have hle : (ps.map fun (i : Nat) => rawInt i).length ≤ sizeLine := by rw [List.length_map, hlen]; exact fits_of_scanBound hb
    refine wpAny_bind (wpAny_newTuple ?_ hle)
    have ho1 := Heap.get?_push_of_some (h := s.heap) { cls := .type "tuple", data := .seq (ps.map fun (i : Nat) => rawInt i).toArray } ho
    refine wpAny_bind ?_
    unfold setEpoch
    refine wpAny_bind (wpAny_setState_of (s := { s with heap := s.heap.push { cls := .type "tuple", data := .seq (ps.map fun (i : Nat) => rawInt i).toArray }, drawn := d }) ho1 hd hf' ?_)
    refine wpAny_pure ?_
    refine wpAny_bind (wpAny_newObj_type ?_)
    refine wpAny_pure ⟨_, rfl, "set_iterator", _, ⟨_, Heap.get?_push_size _ rfl, rfl⟩, slot_setit_next.lookup, ?_⟩
    obtain ⟨l', hp, W⟩ := walks_setD (prog := prog) (w := w) (o := o) (l := l) (a := a) (I := s.heap.objs.size + 1) (T := s.heap.objs.size) (ps := ps) (Nat.ne_of_lt (Nat.lt_succ_of_lt hlt)) (Nat.ne_of_lt (Nat.lt_succ_self _)) (hsz ▸ hps) hd hf
    have e1 : (s.heap.push { cls := .type "tuple", data := .seq (ps.map fun (i : Nat) => rawInt i).toArray }).objs.size = s.heap.objs.size + 1 := Heap.size_push ..
    have := hQ (s.heap.objs.size + 1) [s.heap.objs.size + 1, a, s.heap.objs.size] _ l' ((s.heap.push { cls := .type "tuple", data := .seq (ps.map fun (i : Nat) => rawInt i).toArray }).push { cls := .type "set_iterator", data := .fields #[.ref s.heap.objs.size, .int 0 0, .ref a, .int (l.map ent).toArray.size 0, .int ep 0] }) d hp W ?_ ?_ ?_ ?_ (List.mem_cons_self) (fun i h st => let ⟨⟨o, ho, _⟩, _⟩ := st; ⟨o, ho⟩) ?_
    · dsimp only at this ⊢
      rw [e1]
      exact this
    · refine ⟨⟨{ cls := .type "set_iterator", data := .fields #[.ref s.heap.objs.size, .int 0 0, .ref a, .int (l.map ent).toArray.size 0, .int ep 0] }, ?_, rfl, rfl⟩, Heap.get?_push_of_some _ ho1, Heap.get?_push_of_some _ (Heap.get?_push_size _ rfl)⟩
      rw [← e1]; exact Heap.get?_push_size _ rfl
    · exact fun b o e => Heap.get?_push_of_some _ (Heap.get?_push_of_some _ e)
    · intro b hb'
      simp only [List.mem_cons, List.not_mem_nil, or_false] at hb'
      rcases hb' with rfl | rfl | rfl
      · exact .inr (Nat.le_succ _)
      · exact .inl rfl
      · exact .inr (Nat.le_refl _)
    · exact Nat.le_succ _
    · intro b hb'
      rw [Heap.size_push, e1]
      simp only [List.mem_cons, List.not_mem_nil, or_false] at hb'
      rcases hb' with rfl | rfl | rfl
      · exact Nat.lt_succ_self _
      · exact Nat.lt_succ_of_lt (Nat.lt_succ_of_lt hlt)
      · exact Nat.lt_succ_of_lt (Nat.lt_succ_self _)
  | false =>
    simp only [Bool.false_eq_true, ↓reduceIte]
    refine wpAny_bind (wpAny_pure ?_)
    refine wpAny_bind ?_
    unfold setEpoch
    refine wpAny_bind (wpAny_setState_of ho hd hf' ?_)
    refine wpAny_pure ?_
    refine wpAny_bind (wpAny_newObj_type ?_)
    refine wpAny_pure ⟨_, rfl, "set_iterator", _, ⟨_, Heap.get?_push_size _ rfl, rfl⟩, slot_setit_next.lookup, ?_⟩
    have h0 : SetIt (s.heap.push { cls := .type "set_iterator", data := .fields #[.int (0 : Nat) 0, .int 0 0, .ref a, .int (l.map ent).toArray.size 0, .int ep 0] }) s.heap.objs.size a (.int (0 : Nat) 0) 0 (l.map ent).toArray.size ep := ⟨_, Heap.get?_push_size _ rfl, rfl, rfl⟩
    have hfp : ∀ b ∈ [s.heap.objs.size, a], b = a ∨ s.heap.objs.size ≤ b := by
      intro b hb'
      simp only [List.mem_cons, List.not_mem_nil, or_false] at hb'
      rcases hb' with rfl | rfl
      · exact .inr (Nat.le_refl _)
      · exact .inl rfl
    have e : s = { s with drawn := s.drawn } := by cases s; rfl
    have hfs : ∀ b ∈ [s.heap.objs.size, a], b < (s.heap.push { cls := .type "set_iterator", data := .fields #[.int (0 : Nat) 0, .int 0 0, .ref a, .int (l.map ent).toArray.size 0, .int ep 0] }).objs.size := by
      intro b hb'
      rw [Heap.size_push]
      simp only [List.mem_cons, List.not_mem_nil, or_false] at hb'
      rcases hb' with rfl | rfl
      · exact Nat.lt_succ_self _
      · exact Nat.lt_succ_of_lt hlt
    cases hbt : byText w with
    | true =>
      obtain ⟨l', hp, W⟩ := walks_setT (prog := prog) (w := w) (o := o) (l := l) (a := a) (I := s.heap.objs.size) (Nat.ne_of_lt hlt) hbt hd hf
      exact hQ s.heap.objs.size [s.heap.objs.size, a] _ l' _ s.drawn hp W ⟨h0, Heap.get?_push_of_some _ ho⟩ (fun b o e => Heap.get?_push_of_some _ e) hfp (Nat.le_refl _) (List.mem_cons_self) (fun i h st => let ⟨⟨o, ho, _⟩, _⟩ := st; ⟨o, ho⟩) hfs
    | false =>
      have hw' := hw.resolve_left (by rw [hbt]; exact Bool.false_ne_true)
      have hdr' : (!t.plain && decide ((l.map ent).toArray.size > 1)) = false := by rw [hbt] at hdr; simpa using hdr
      have hps : t.place.size = l.length := by
        simp only [SetTable.fits, Bool.and_eq_true, beq_iff_eq] at hf; exact hf.1
      have hr : Rises t.place := by
        cases hpl : t.plain with
        | true => exact hw'.2 hpl
        | false =>
          rw [hpl] at hdr'
          have h2 : ¬ (l.length > 1) := by simpa using hdr'
          show List.Pairwise _ t.place.toList
          have h3 : t.place.toList.length ≤ 1 := by rw [Array.length_toList, hps]; lia
          match hq : t.place.toList, h3 with
          | [], _ => exact List.Pairwise.nil
          | [_], _ => exact List.pairwise_singleton _ _
      refine hQ s.heap.objs.size [s.heap.objs.size, a] _ l _ s.drawn (.refl _) (fun A hh => walks_setP (prog := prog) (w := w) (o := o) (l := l) (a := a) (I := s.heap.objs.size) hh (Nat.ne_of_lt hlt) hbt hw'.1 hdr' hr hd hf) ⟨0, h0, Heap.get?_push_of_some _ ho, ?_⟩ (fun b o e => Heap.get?_push_of_some _ e) hfp (Nat.le_refl _) (List.mem_cons_self) (fun i h st => let ⟨_, ⟨o, ho, _⟩, _⟩ := st; ⟨o, ho⟩) hfs
      exact below_eq hr (fun i a hi _ => absurd hi (Nat.not_lt_zero _)) (fun i a _ _ => Nat.zero_le _) (Nat.zero_le _)
end
end Mine
end

section
open PySem PySem.W PyProof.Rows PySem.Spec PySem.Calls
set_option Elab.async false
namespace Mine
section
variable {prog : Program} {w : World} {A : Around} {E : Value → Shared → Prop} {s : Shared} {env : Env} {h₀ : Heap} {x : Str} {body : List Stmt} {Q : Flow → Shared → Prop}

/-- what a turn hands on -/
noncomputable def Turned (h₀ : Heap) (L I : Addr) (own : List (Addr × Obj)) (J : (Str → Option Value) → List (Addr × Obj) → Prop) (s₁ : Shared) (Q : Flow → Shared → Prop) (f : Flow) (s₃ : Shared) : Prop :=
  match f with
  | .ret v => Q (.ret v) s₃
  | .brk => Q .next s₃
  | _ => ∃ h' tk m' news' nx, s₃ = { s₁ with heap := h', toks := tk } ∧ Fr h₀ L h' m' ∧ News h₀ L h' news' ∧ (∀ p ∈ own, p ∈ news') ∧ (∀ p ∈ nx, p ∈ news') ∧ (∀ p ∈ nx, p.1 ≠ I) ∧ J m' nx
theorem Turned.next {L I : Addr} {own : List (Addr × Obj)} {J : (Str → Option Value) → List (Addr × Obj) → Prop} {s₁ : Shared} {h' : Heap} {tk : Nat} {m' : Str → Option Value} {news' : List (Addr × Obj)} (nx : List (Addr × Obj))
    (F : Fr h₀ L h' m') (N : News h₀ L h' news') (ho : ∀ p ∈ own, p ∈ news') (hn : ∀ p ∈ nx, p ∈ news') (ha : ∀ p ∈ nx, p.1 ≠ I) (hJ : J m' nx) : Turned h₀ L I own J s₁ Q .next { s₁ with heap := h', toks := tk } :=
  ⟨h', tk, m', news', nx, rfl, F, N, ho, hn, ha, hJ⟩

theorem loop_walks {I : Addr} {fp : List Addr} {n : Nat} {P : Nat → Value → Prop} {St : Nat → Heap → Prop} {m₀ : Str → Option Value} {news : List (Addr × Obj)} (J : Nat → (Str → Option Value) → List (Addr × Obj) → Prop)
    (W : Walks prog w A I fp [I] n P St) (hL : env.locals ∉ fp) (hI : h₀.get? I = none) (hst : St 0 s.heap) (F : Fr h₀ env.locals s.heap m₀) (N : News h₀ env.locals s.heap news) (hn : ∀ p ∈ news, p.1 ≠ I) (hj : J 0 m₀ news)
    (turn : ∀ i v m₁ news₁ h tk own, i < n → P i v → J i m₁ news₁ → (∀ p ∈ news₁, p.1 ≠ I) → (∀ p ∈ own, p.1 ∈ fp) → (∀ b ∈ fp, h₀.get? b = none → ∀ o, h.get? b = some o → (b, o) ∈ own) → St (i + 1) h →
      Fr h₀ env.locals h (fun y => if y = x then some v else m₁ y) → News h₀ env.locals h (news₁ ++ own) →
      wpAny (model prog w) A (execs body env) (Turned h₀ env.locals I own (J (i + 1)) { s with heap := h, toks := tk } Q) E { s with heap := h, toks := tk })
    (done : ∀ m₁ news₁ h tk, J n m₁ news₁ → Fr h₀ env.locals h m₁ → News h₀ env.locals h news₁ → Q .next { s with heap := h, toks := tk }) :
    LoopAtV prog w A h₀ env x body Q E (.ref I) s := by
  refine ⟨I, fp, [I], n, P, St, m₀, news, J, rfl, W, hL, ?_, ?_, hst, F, N, hj, ?_, ?_⟩
  · intro b hb; rw [List.mem_singleton.mp hb]; exact hI
  · intro p hp hq; exact hn p hp (List.mem_singleton.mp hq)
  · rintro i v m₁ news₁ s₁ own ⟨hh', tk', rfl⟩ hin hP hJ hoff hown hget hall hst' F₁ N₁
    have N₂ : News h₀ env.locals hh' (news₁ ++ own) := fun p hp => N₁ p ((List.mem_append.mp hp).elim (fun h => List.mem_append.mpr (.inr h)) fun h => List.mem_append.mpr (.inl h))
    refine wpAny_mono (turn i v m₁ news₁ hh' tk' own hin hP hJ (fun p hp q => hoff p hp (List.mem_singleton.mpr q)) hown hall hst' F₁ N₂) (fun f s₂ p => ?_) fun _ _ e => e
    have fin : (∃ h' tk m' news' nx, s₂ = { s with heap := h', toks := tk } ∧ Fr h₀ env.locals h' m' ∧ News h₀ env.locals h' news' ∧ (∀ p ∈ own, p ∈ news') ∧ (∀ p ∈ nx, p ∈ news') ∧ (∀ p ∈ nx, p.1 ≠ I) ∧ J (i + 1) m' nx) →
        LoopStepU h₀ env.locals [I] own (J (i + 1)) { s with heap := hh', toks := tk' } .next s₂ := by
      rintro ⟨h', tk, m', news', nx, e, F', N', ho, hn, ha, hm⟩
      exact ⟨rfl, h', tk, m', nx, e, F', fun p hp => N' p ((List.mem_append.mp hp).elim (ho p) (hn p)), fun p hp hq => ha p hp (List.mem_singleton.mp hq), hm⟩
    cases f with
    | ret v => exact .ret p
    | brk => exact .brk p
    | next => exact .next (fin p)
    | cont => exact .cont (fin p)
  · rintro h' tk m' news' F' N' _ hJ
    exact done m' news' h' tk hJ F' N'

theorem fresh_addr {m : Str → Option Value} {L : Addr} (F : Fr h₀ L s.heap m) {I : Addr} (h : s.heap.objs.size ≤ I) : h₀.get? I = none := by
  cases hq : h₀.get? I with
  | none => rfl
  | some o => exact absurd (Heap.lt_size (F.keep _ _ hq)) (Nat.not_lt.mpr h)

/-- what a turn hands on: the part that changes -/
noncomputable def Turn (h₀ : Heap) (L I : Addr) (tl : List (Addr × Obj)) (J : (Str → Option Value) → List (Addr × Obj) → Prop) (s₁ : Shared) (Q : Flow → Shared → Prop) (f : Flow) (s₃ : Shared) : Prop :=
  match f with
  | .ret v => Q (.ret v) s₃
  | .brk => Q .next s₃
  | _ => ∃ h' tk m' news' chg, s₃ = { s₁ with heap := h', toks := tk } ∧ Fr h₀ L h' m' ∧ News h₀ L h' news' ∧ (∀ p ∈ tl, p ∈ news') ∧ (∀ p ∈ chg, p ∈ news') ∧ (∀ p ∈ chg, p.1 ≠ I) ∧ J m' chg
theorem Turn.mk {L I : Addr} {tl : List (Addr × Obj)} {J : (Str → Option Value) → List (Addr × Obj) → Prop} {s₁ : Shared} {h' : Heap} {tk : Nat} {m' : Str → Option Value} (chg : List (Addr × Obj))
    (F : Fr h₀ L h' m') (N : News h₀ L h' (chg ++ tl)) (ha : ∀ p ∈ chg, p.1 ≠ I) (hJ : J m' chg) : Turn h₀ L I tl J s₁ Q .next { s₁ with heap := h', toks := tk } :=
  ⟨h', tk, m', _, chg, rfl, F, N, fun _ h => List.mem_append_right _ h, fun _ h => List.mem_append_left _ h, ha, hJ⟩
/-- what a turn may know of the part that stays -/
structure Tail (B I : Addr) (fp : List Addr) (fixed chg₀ tl : List (Addr × Obj)) : Prop where
  sub : ∀ p ∈ fixed, p ∈ tl
  off : ∀ p ∈ chg₀, ∀ q ∈ tl, q.1 ≠ p.1
  old : ∀ q ∈ tl, q ∈ fixed ∨ (B ≤ q.1 ∧ q.1 ∈ fp)
  low : ∀ q ∈ fixed, q.1 < B
  lowc : ∀ q ∈ chg₀, q.1 < B
  big : B ≤ I
  it : ∃ o, (I, o) ∈ tl

theorem loop_keep {I : Addr} {fp : List Addr} {n : Nat} {P : Nat → Value → Prop} {St : Nat → Heap → Prop} {m₀ : Str → Option Value} {fixed chg₀ : List (Addr × Obj)} {B : Addr} (J : Nat → (Str → Option Value) → List (Addr × Obj) → Prop)
    (W : Walks prog w A I fp [I] n P St) (hL : env.locals ∉ fp) (hB : B ≤ I) (hBn : ∀ b : Addr, B ≤ b → h₀.get? b = none) (hIf : I ∈ fp) (hIs : ∀ i h, St i h → ∃ o, h.get? I = some o) (hst : St 0 s.heap) (F : Fr h₀ env.locals s.heap m₀) (N : News h₀ env.locals s.heap (chg₀ ++ fixed)) (hlt : ∀ p ∈ chg₀ ++ fixed, p.1 < B)
    (hfp : ∀ b ∈ fp, (∃ o, (b, o) ∈ fixed) ∨ (∃ o, h₀.get? b = some o) ∨ B ≤ b) (hj : J 0 m₀ chg₀) (ap : ∀ p ∈ chg₀, ∀ q ∈ fixed, q.1 ≠ p.1)
    (turn : ∀ i v m₁ chg h tk tl, i < n → P i v → J i m₁ chg → (∀ p ∈ chg, p.1 ≠ I) → Tail B I fp fixed chg₀ tl →
      Fr h₀ env.locals h (fun y => if y = x then some v else m₁ y) → News h₀ env.locals h (chg ++ tl) →
      wpAny (model prog w) A (execs body env) (Turn h₀ env.locals I tl (J (i + 1)) { s with heap := h, toks := tk } Q) E { s with heap := h, toks := tk })
    (done : ∀ m₁ chg h tk, J n m₁ chg → Fr h₀ env.locals h m₁ → News h₀ env.locals h (chg ++ fixed) → Q .next { s with heap := h, toks := tk }) :
    LoopAtV prog w A h₀ env x body Q E (.ref I) s := by
  refine loop_walks (fun i m nx => ∃ chg, nx = chg ++ fixed ∧ J i m chg) W hL (hBn I hB) hst F N (fun p hp q => ?_) ⟨chg₀, rfl, hj⟩ ?_ ?_
  · have := hlt p hp; rw [q] at this; exact absurd this (Nat.not_lt.mpr hB)
  · rintro i v m₁ nw h tk own hi hP ⟨chg, rfl, hJ⟩ hne hown hall st' F₁ N₁
    have hoI : ∃ o, (I, o) ∈ own := by
      obtain ⟨o, ho⟩ := hIs _ _ st'
      exact ⟨o, hall I hIf (hBn I hB) o ho⟩
    have hold : ∀ q ∈ own, q ∈ fixed ∨ (B ≤ q.1 ∧ q.1 ∈ fp) := by
      intro q hq
      have g := N₁ q (List.mem_append_right _ hq)
      rcases hfp _ (hown q hq) with ⟨o, ho⟩ | ⟨o, ho⟩ | hb
      · left
        have g' := N₁ (q.1, o) (List.mem_append_left _ (List.mem_append_right _ ho))
        have : q.2 = o := by
          have := g.1.symm.trans g'.1
          exact Option.some.inj this
        rw [← this] at ho; exact ho
      · rw [g.2.2] at ho; cases ho
      · exact .inr ⟨hb, hown q hq⟩
    refine wpAny_mono (turn i v m₁ chg h tk (fixed ++ own) hi hP hJ (fun p hp => hne p (List.mem_append_left _ hp)) ⟨fun p hp => List.mem_append_left _ hp, ?_, ?_, fun q hq => hlt q (List.mem_append_right _ hq), fun q hq => hlt q (List.mem_append_left _ hq), hB, ?_⟩ F₁ (by rw [← List.append_assoc]; exact N₁)) (fun f s₂ q => ?_) fun _ _ e => e
    · intro p hp q hq
      rcases List.mem_append.mp hq with hq | hq
      · exact ap p hp q hq
      · rcases hold q hq with h1 | h1
        · exact ap p hp q h1
        · have := hlt p (List.mem_append_left _ hp)
          exact fun e => absurd (e ▸ h1.1) (Nat.not_le.mpr this)
    · intro q hq
      rcases List.mem_append.mp hq with hq | hq
      · exact .inl hq
      · exact hold q hq
    · obtain ⟨o, ho⟩ := hoI
      exact ⟨o, List.mem_append_right _ ho⟩
    · have fin : (∃ h' tk m' news' chg', s₂ = { s with heap := h', toks := tk } ∧ Fr h₀ env.locals h' m' ∧ News h₀ env.locals h' news' ∧ (∀ p ∈ fixed ++ own, p ∈ news') ∧ (∀ p ∈ chg', p ∈ news') ∧ (∀ p ∈ chg', p.1 ≠ I) ∧ J (i + 1) m' chg') →
          ∃ h' tk m' news' nx, s₂ = { s with heap := h', toks := tk } ∧ Fr h₀ env.locals h' m' ∧ News h₀ env.locals h' news' ∧ (∀ p ∈ own, p ∈ news') ∧ (∀ p ∈ nx, p ∈ news') ∧ (∀ p ∈ nx, p.1 ≠ I) ∧ ∃ chg, nx = chg ++ fixed ∧ J (i + 1) m' chg := by
        rintro ⟨h', tk, m', news', chg', e, F', N', h1, h2, h3, h4⟩
        refine ⟨h', tk, m', news', chg' ++ fixed, e, F', N', fun p hp => h1 p (List.mem_append_right _ hp), fun p hp => ?_, fun p hp => ?_, chg', rfl, h4⟩
        · exact (List.mem_append.mp hp).elim (h2 p) fun h => h1 p (List.mem_append_left _ h)
        · rcases List.mem_append.mp hp with h | h
          · exact h3 p h
          · exact hne p (List.mem_append_right _ h)
      cases f with
      | ret v => exact q
      | brk => exact q
      | next => exact fin q
      | cont => exact fin q
  · rintro m₁ nw h tk ⟨chg, rfl, hJ⟩ F₁ N₁
    exact done m₁ chg h tk hJ F₁ N₁

theorem fresh_from {m : Str → Option Value} {L : Addr} (F : Fr h₀ L s.heap m) : ∀ b : Addr, s.heap.objs.size ≤ b → h₀.get? b = none := fun b hb => fresh_addr F hb
theorem fr_grow {m : Str → Option Value} {L : Addr} {h h' : Heap} (F : Fr h₀ L h m) (hk : ∀ b o, h.get? b = some o → h'.get? b = some o) : Fr h₀ L h' m :=
  let ⟨oL, es, ep, hL, r⟩ := F.ns
  ⟨⟨oL, es, ep, hk _ _ hL, r⟩, fun b o e => hk _ _ (F.keep b o e), F.above⟩
theorem news_grow {L : Addr} {h h' : Heap} {news : List (Addr × Obj)} (N : News h₀ L h news) (hk : ∀ b o, h.get? b = some o → h'.get? b = some o) : News h₀ L h' news := fun p hp => ⟨hk _ _ (N p hp).1, (N p hp).2⟩

/-- over a set of ints in the ledger; the turns' order is any -/
theorem iter_set {sa : Addr} {so : Obj} {xs : List Int} {m₀ : Str → Option Value} {fixed chg₀ : List (Addr × Obj)} (J : List Int → (Str → Option Value) → List (Addr × Obj) → Prop)
    (hh : A.handled = none) (F : Fr h₀ env.locals s.heap m₀) (N : News h₀ env.locals s.heap (chg₀ ++ fixed)) (hm : (sa, so) ∈ fixed) (hP : SetP w so xs) (hj : J [] m₀ chg₀) (ap : ∀ p ∈ chg₀, ∀ q ∈ fixed, q.1 ≠ p.1)
    (turn : ∀ I fp k t pre m₁ chg h tk d tl, k ∈ xs → pre.length < xs.length → J pre m₁ chg → (∀ p ∈ chg, p.1 ≠ I) → Tail s.heap.objs.size I fp fixed chg₀ tl →
      Fr h₀ env.locals h (fun y => if y = x then some (.int k t) else m₁ y) → News h₀ env.locals h (chg ++ tl) →
      wpAny (model prog w) A (execs body env) (Turn h₀ env.locals I tl (J (pre ++ [k])) { s with heap := h, toks := tk, drawn := d } Q) E { s with heap := h, toks := tk, drawn := d })
    (done : ∀ ks m₁ chg h tk d, List.Perm ks xs → J ks m₁ chg → Fr h₀ env.locals h m₁ → News h₀ env.locals h (chg ++ fixed) → Q .next { s with heap := h, toks := tk, drawn := d }) :
    wpAny (model prog w) A (pyIter (.ref sa)) (fun it s₂ => LoopAtV prog w A h₀ env x body Q E it s₂) E s := by
  obtain ⟨l, hI, hp⟩ := hP
  have hmn : (sa, so) ∈ chg₀ ++ fixed := List.mem_append_right _ hm
  refine pyIter_set (N _ hmn).1 hI fun I fp St l' h' d hp' W hst hk hfp hI' hIf hIs _ => ?_
  have hlen : l'.length = xs.length := by rw [hp'.length_eq, ← hp.length_eq, List.length_map]
  have hlen' : l.length = xs.length := by rw [← hp.length_eq, List.length_map]
  refine loop_keep (s := { s with heap := h', drawn := d }) (B := s.heap.objs.size) (fun i => J ((l'.take i).map (·.1))) (W A hh) (fun hb => ?_) hI' (fresh_from F) hIf hIs hst (fr_grow F hk) (news_grow N hk) (fun p hp => Heap.lt_size (N p hp).1) (fun b hb => ?_) hj ap ?_ ?_
  · rcases hfp _ hb with q | q
    · exact (N _ hmn).2.1 q.symm
    · exact absurd F.ns.lt (Nat.not_lt.mpr q)
  · rcases hfp _ hb with q | q
    · rw [q]; exact .inl ⟨so, hm⟩
    · exact .inr (.inr q)
  · rintro i v m₁ chg h tk tl hi ⟨p, hp1, rfl⟩ hJ hne hT F₁ N₁
    have hmem : p.1 ∈ xs := hp.mem_iff.mp ((hp'.map (·.1)).mem_iff.mp (List.mem_map_of_mem (List.mem_of_getElem? hp1)))
    have := turn I fp p.1 p.2 ((l'.take i).map (·.1)) m₁ chg h tk d tl hmem (by rw [List.length_map, List.length_take]; lia) hJ hne hT F₁ N₁
    have e : (l'.take i).map (·.1) ++ [p.1] = (l'.take (i + 1)).map (·.1) := by
      rw [List.take_add_one, hp1]; simp
    rw [e] at this
    exact this
  · intro m₁ chg h tk hJ F₁ N₁
    refine done _ m₁ chg h tk d ?_ hJ F₁ N₁
    rw [List.take_of_length_le (by lia)]
    exact (hp'.map (·.1)).trans hp

/-- over a list of ints in the ledger -/
theorem iter_lst {la : Addr} {vs : List Value} {ns : List Int} {ep : Nat} {m₀ : Str → Option Value} {fixed chg₀ : List (Addr × Obj)} (J : Nat → (Str → Option Value) → List (Addr × Obj) → Prop)
    (hh : A.handled = none) (F : Fr h₀ env.locals s.heap m₀) (N : News h₀ env.locals s.heap (chg₀ ++ fixed)) (hm : (la, listOf vs.toArray ep) ∈ fixed) (hi : IntsAre vs ns) (hj : J 0 m₀ chg₀) (ap : ∀ p ∈ chg₀, ∀ q ∈ fixed, q.1 ≠ p.1)
    (turn : ∀ i n t m₁ chg h tk tl, ns[i]? = some n → J i m₁ chg → (∀ p ∈ chg, p.1 ≠ s.heap.objs.size) → Tail s.heap.objs.size s.heap.objs.size [s.heap.objs.size, la] fixed chg₀ tl →
      Fr h₀ env.locals h (fun y => if y = x then some (.int n t) else m₁ y) → News h₀ env.locals h (chg ++ tl) →
      wpAny (model prog w) A (execs body env) (Turn h₀ env.locals s.heap.objs.size tl (J (i + 1)) { s with heap := h, toks := tk } Q) E { s with heap := h, toks := tk })
    (done : ∀ m₁ chg h tk, J ns.length m₁ chg → Fr h₀ env.locals h m₁ → News h₀ env.locals h (chg ++ fixed) → Q .next { s with heap := h, toks := tk }) :
    wpAny (model prog w) A (pyIter (.ref la)) (fun it s₂ => LoopAtV prog w A h₀ env x body Q E it s₂) E s := by
  have hmn : (la, listOf vs.toArray ep) ∈ chg₀ ++ fixed := List.mem_append_right _ hm
  have hls : s.heap.IsList la vs.toArray := ⟨_, (N _ hmn).1, rfl, _, rfl⟩
  have hlt : la < s.heap.objs.size := Heap.lt_size (N _ hmn).1
  refine wpAny_pyIter_list hls ?_
  have W := Walks.list (prog := prog) (w := w) hh s.heap.objs.size la (Nat.ne_of_lt hlt) vs.toArray
  have hlen : vs.toArray.size = ns.length := by simp [hi.length]
  rw [hlen] at W
  refine loop_keep (s := { s with heap := s.heap.push { cls := .type "list_iterator", data := .fields #[.ref la, .int 0 0] } }) (B := s.heap.objs.size) J W (fun hb => ?_) (Nat.le_refl _) (fresh_from F) List.mem_cons_self (fun i h st => let ⟨⟨o, ho, _⟩, _⟩ := st; ⟨o, ho⟩)
    ⟨⟨_, Heap.get?_push_size _ rfl, rfl, rfl⟩, hls.push _⟩ (F.push _) (news_grow N fun b o e => Heap.get?_push_of_some _ e) (fun p hp => Heap.lt_size (N p hp).1) (fun b hb => ?_) hj ap ?_ (fun m₁ chg h tk hJ F₁ N₁ => done m₁ chg h tk hJ F₁ N₁)
  · rcases List.mem_cons.mp hb with q | q
    · exact absurd F.ns.lt (by rw [q]; exact Nat.lt_irrefl _)
    · exact (N _ hmn).2.1 (List.mem_singleton.mp q).symm
  · rcases List.mem_cons.mp hb with q | q
    · exact .inr (.inr (by rw [q]; exact Nat.le_refl _))
    · rw [List.mem_singleton.mp q]; exact .inl ⟨_, hm⟩
  · rintro i v m₁ chg h tk tl hi' hP hJ hne hT F₁ N₁
    have hv : ∃ t, v = .int (ns[i]'hi') t := by
      obtain ⟨t, ht⟩ := IntsAre.int_at hi i v (by simpa using hP)
      rw [List.getD_eq_getElem?_getD, List.getElem?_eq_getElem hi'] at ht
      exact ⟨t, ht⟩
    obtain ⟨t, rfl⟩ := hv
    exact turn i _ t m₁ chg h tk tl (List.getElem?_eq_getElem hi') hJ hne hT F₁ N₁
end
end Mine
end

section
open PySem PySem.W PyProof.Rows PySem.Spec PySem.Calls
set_option Elab.async false
namespace Mine
noncomputable abbrev Pg : Program := PySem.Challenge.rw_jg0025_01.row.prog
noncomputable abbrev Lz : List Str := looseW hd.view_39 [Str.ofString "BytesIO"]
/-- a caller's frame, any def at this depth -/
noncomputable abbrev atD (dp un : Nat) (cn : Str) (cs : Scope) (L a : Addr) (ccd : Value) (outer : List Env) : Around :=
  { handled := none, depth := dp, frames := some (envX cn cs L a ccd [] :: outer), guards := some [], units := un }
noncomputable abbrev listO (vs : Array Value) (n : Nat) : Obj := { cls := .type "list", data := .seq vs n }
theorem allLt_ne {d : Addr} {l : List (Addr × Obj)} (h : AllLt d l) : ∀ p ∈ l, p.1 ≠ d := by
  induction l with
  | nil => intro p hp; cases hp
  | cons q l ih =>
    intro p hp
    unfold AllLt at h
    rcases List.mem_cons.mp hp with e | e
    · rw [e]; exact Nat.ne_of_lt h.1
    · exact ih h.2 p e
noncomputable def ovr (m : Str → Option Value) : List (Str × Value) → Str → Option Value
  | [] => m
  | (x, v) :: r => fun y => if y = x then some v else ovr m r y
noncomputable def Says (m : Str → Option Value) : List (Str × Value) → Prop
  | [] => True
  | (x, v) :: r => m x = some v ∧ Says m r
theorem ovr_eq {m : Str → Option Value} : ∀ {bs : List (Str × Value)}, Says m bs → ovr m bs = m
  | [], _ => rfl
  | (x, v) :: r, h => by
    funext y
    show (if y = x then some v else ovr m r y) = m y
    rw [ovr_eq h.2]
    by_cases q : y = x
    · rw [if_pos q, q]; exact h.1.symm
    · rw [if_neg q]
theorem frL {h₀ h : Heap} {L : Addr} {m : Str → Option Value} (F : Fr h₀ L h m) {bs : List (Str × Value)} (e : Says m bs) : Fr h₀ L h (ovr m bs) := by
  rw [ovr_eq e]; exact F
theorem int_eq {o : Option Value} {x y : Int} {t : Tok} (h : o = some (Value.int x t)) (e : x = y) : o = some (Value.int y t) := by rw [h, e]
/-! the rows of words: a stack, the last row ahead -/
noncomputable abbrev Row := Nat × List Int
noncomputable def addW (R : List Row) (x : Int) : List Row :=
  if x = 0 then (match R with
    | (z, []) :: R' => (z + 1, []) :: R'
    | R => (1, []) :: R)
  else (match R with
    | (z, ls) :: R' => (z, ls ++ [x]) :: R'
    | [] => [(0, [x])])
noncomputable def rowsS (ws : List Int) : List Row := ws.foldl addW []
noncomputable def mark (r : Row) : Int := r.2.length * 2 ^ 33 + r.1 * 2
noncomputable def toldOf (R : List Row) : List Int := R.reverse.flatMap fun r => mark r :: r.2
end Mine
end

section
open PySem PySem.W PyProof.Rows PySem.Spec PySem.Calls
set_option Elab.async false
namespace Mine
section
variable {prog : Program} {w : World} {A : Around} {E : Value → Shared → Prop} {s : Shared} {h₀ : Heap} {L la : Addr} {m : Str → Option Value} {news news' : List (Addr × Obj)} {us : List Value} {ns : List Int} {c : Nat}

theorem j_len {Q : Value → Shared → Prop} (N : News h₀ L s.heap news) (hm : (la, listOf us.toArray c) ∈ news) (e : IntsAre us ns) (hfit : (ns.length : Int) < 2 ^ 63)
    (h : Q (.int (ns.length : Int) (s.toks + 1)) { s with toks := s.toks + 1 + 1 }) : wpAny (model prog w) A (call (.builtin "len") [.ref la]) Q E s :=
  kst_len N hm e.length hfit h
theorem j_item {value slice : Expr} {k : Int} {u : Tok} {Q : Value → Shared → Prop} (N : News h₀ L s.heap news) (hm : (la, listOf us.toArray c) ∈ news) (e : IntsAre us ns) (h0 : 0 ≤ k) (hlt : k < (ns.length : Int)) (hfit : (ns.length : Int) < 2 ^ 63)
    (h : ∀ t, Q (.int (ns.getD k.toNat 0) t) s)
    (hs : subscripted slice false (.ref la) (.int k u) = operate [.ref la, .int k u] (getItem (.ref la) (.int k u)) := by with_unfolding_all rfl) :
    wpAny (model prog w) A (subscriptTail value slice (.ref la) (.int k u)) Q E s := by
  have hl : s.heap.IsList la us.toArray := ⟨_, (N _ hm).1, rfl, c, rfl⟩
  have hk : k.toNat < us.length := by rw [e.length]; lia
  obtain ⟨t, ht⟩ := IntsAre.int_at e k.toNat us[k.toNat] (List.getElem?_eq_getElem hk)
  exact tail_any hl.typeIs slot_list_getitem.lookup (wpAny_getItem_list hl h0 (by lia) (by rw [List.getElem?_toArray, List.getElem?_eq_getElem hk, ht]) (h t)) hs
theorem j_append {k : Int} {t : Tok} {Q : Value → Shared → Prop} (F : Fr h₀ L s.heap m) (N : News h₀ L s.heap news) (e : IntsAre us ns) (U : Upd la (listOf us.toArray c) (listOf (us ++ [Value.int k t]).toArray (c + 1)) news news') (hz : ns.length ≤ 16777216)
    (h : ∀ h', Fr h₀ L h' m → News h₀ L h' news' → IntsAre (us ++ [Value.int k t]) (ns ++ [k]) → Q .none { s with heap := h' }) : wpAny (model prog w) A (call (.builtin "list.append") [.ref la, .int k t]) Q E s := by
  have e1 : us.toArray.push (.int k t) = (us ++ [Value.int k t]).toArray := by simp
  refine append_K F N (by rw [e1]; exact U) (fun h' F' N' => h h' F' N' (e.append (.cons k t .nil))) (by rw [List.size_toArray, e.length, sizeLine_eq]; exact hz)
theorem j_extend {lb : Addr} {news'' : Nat → List (Addr × Obj)} {vs : List Value} {ms : List Int} {c2 : Nat} {Q : Value → Shared → Prop} (F : Fr h₀ L s.heap m) (N : News h₀ L s.heap news) (hb : (lb, listOf vs.toArray c2) ∈ news) (e : IntsAre us ns) (e2 : IntsAre vs ms)
    (U : ∀ c', Upd la (listOf us.toArray c) (listOf (us ++ vs).toArray c') news (news'' c')) (hz : ns.length + ms.length ≤ 16777216)
    (h : ∀ c' h', Fr h₀ L h' m → News h₀ L h' (news'' c') → IntsAre (us ++ vs) (ns ++ ms) → Q .none { s with heap := h' }) : wpAny (model prog w) A (call (.builtin "list.extend") [.ref la, .ref lb]) Q E s := by
  have l1 := e.length
  have l2 := e2.length
  have hd : ¬(!us.toArray.isEmpty && Builtin.List.listTooLong (us.toArray.size + vs.toArray.size)) = true := by
    have : Builtin.List.listTooLong (us.toArray.size + vs.toArray.size) = false := by
      unfold Builtin.List.listTooLong
      simp only [List.size_toArray, decide_eq_false_iff_not, sizeLine_eq]
      lia
    rw [this]; simp
  have hz1 : us.toArray.toList.length ≤ sizeLine := by rw [sizeLine_eq]; simp; lia
  have hz2 : us.toArray.size + vs.toArray.size ≤ sizeLine + 1 := by rw [sizeLine_eq]; simp; lia
  by_cases hv : vs = []
  · subst hv
    have U' := U c
    rw [List.append_nil] at U'
    refine kxn_extend F N hb rfl U' hd hz1 hz2 fun h' F' N' => h c h' F' N' (e.append e2)
  · refine kl_extend F N hb (l := us ++ vs) rfl (by intro q; exact hv (List.eq_nil_of_length_eq_zero q)) (U (c + 1)) hd hz1 hz2 fun h' F' N' => h (c + 1) h' F' N' (e.append e2)
end
/-- what stands behind a loop, or between two of its turns -/
noncomputable def Stands (h₀ : Heap) (L : Addr) (s : Shared) (K : (Str → Option Value) → List (Addr × Obj) → Prop) (s' : Shared) : Prop :=
  ∃ h' tk m' news', s' = { s with heap := h', toks := tk } ∧ Fr h₀ L h' m' ∧ News h₀ L h' news' ∧ K m' news'
noncomputable def WStep (h₀ : Heap) (L : Addr) (s : Shared) (J : Nat → (Str → Option Value) → List (Addr × Obj) → Prop) (K : (Str → Option Value) → List (Addr × Obj) → Prop) (Q : Flow → Shared → Prop) (n : Nat) (f : Flow) (s₃ : Shared) : Prop :=
  match f with
  | .next | .cont => Stands h₀ L s (fun m' news' => ∃ n', n' < n ∧ J n' m' news') s₃
  | .brk => Stands h₀ L s K s₃
  | .ret v => Q (.ret v) s₃
theorem Stands.mk {h₀ : Heap} {L : Addr} {s : Shared} {K : (Str → Option Value) → List (Addr × Obj) → Prop} {h' : Heap} {tk : Nat} {m' : Str → Option Value} {news' : List (Addr × Obj)} (F : Fr h₀ L h' m') (N : News h₀ L h' news') (k : K m' news') : Stands h₀ L s K { s with heap := h', toks := tk } :=
  ⟨h', tk, m', news', rfl, F, N, k⟩
section
variable {prog : Program} {w : World} {A : Around} {E : Value → Shared → Prop} {Q : Flow → Shared → Prop} {s : Shared} {env : Env} {h₀ : Heap} {L : Addr}
theorem while_do {test : Expr} {body : List Stmt} {pos : Pos} {m : Str → Option Value} {news : List (Addr × Obj)} (J : Nat → (Str → Option Value) → List (Addr × Obj) → Prop) (K : (Str → Option Value) → List (Addr × Obj) → Prop) {n₀ : Nat}
    (F : Fr h₀ L s.heap m) (N : News h₀ L s.heap news) (hJ : J n₀ m news)
    (turn : ∀ n m₁ news₁ h₁ tk₁, Fr h₀ L h₁ m₁ → News h₀ L h₁ news₁ → J n m₁ news₁ →
      wpAny (model prog w) A (isTrue test env (eval test env)) (fun b s₂ =>
        if b = true then wpAny (model prog w) A (execs body env) (WStep h₀ L s J K Q n) E s₂ else Stands h₀ L s K s₂) E { s with heap := h₁, toks := tk₁ })
    (done : ∀ m' news' h' tk, K m' news' → Fr h₀ L h' m' → News h₀ L h' news' → Q .next { s with heap := h', toks := tk })
    (hE : PassesOwn (model prog w) A env E := by passes_own) :
    wpAny (model prog w) A (exec (.While test body [] pos) env) Q E s := by
  have fin : ∀ s', Stands h₀ L s K s' → Q .next s' := by
    rintro s' ⟨h', tk, m', news', rfl, F', N', k⟩
    exact done m' news' h' tk k F' N'
  refine While_inv2 J F N hJ (fun n m₁ news₁ h₁ tk₁ F₁ N₁ j => ?_) hE
  refine wpAny_mono (turn n m₁ news₁ h₁ tk₁ F₁ N₁ j) (fun b s₂ p => ?_) fun _ _ x => x
  cases b with
  | false => simp only [Bool.false_eq_true, if_false] at p ⊢; exact fin _ p
  | true =>
    simp only [if_true] at p ⊢
    refine wpAny_mono p (fun f s₃ q => ?_) fun _ _ x => x
    cases f with
    | ret v => exact q
    | brk => exact fin _ q
    | next => obtain ⟨h', tk, m', news', e, F', N', n', hn, j'⟩ := q; exact ⟨h', tk, m', news', n', e, F', N', hn, j'⟩
    | cont => obtain ⟨h', tk, m', news', e, F', N', n', hn, j'⟩ := q; exact ⟨h', tk, m', news', n', e, F', N', hn, j'⟩
/-- the same, what is wanted behind a turn held closed -/
theorem while_go {test : Expr} {body : List Stmt} {pos : Pos} {m : Str → Option Value} {news : List (Addr × Obj)} (J : Nat → (Str → Option Value) → List (Addr × Obj) → Prop) (K : (Str → Option Value) → List (Addr × Obj) → Prop) {n₀ : Nat}
    (F : Fr h₀ L s.heap m) (N : News h₀ L s.heap news) (hJ : J n₀ m news)
    (turn : ∀ n m₁ news₁ h₁ tk₁ (Y : Flow → Shared → Prop) (Z : Shared → Prop), (∀ s', Stands h₀ L s (fun m' news' => ∃ n', n' < n ∧ J n' m' news') s' → Y .next s') → (∀ s', Stands h₀ L s K s' → Y .brk s') → (∀ s', Stands h₀ L s K s' → Z s') →
      Fr h₀ L h₁ m₁ → News h₀ L h₁ news₁ → J n m₁ news₁ →
      wpAny (model prog w) A (isTrue test env (eval test env)) (fun b s₂ => if b = true then wpAny (model prog w) A (execs body env) Y E s₂ else Z s₂) E { s with heap := h₁, toks := tk₁ })
    (done : ∀ m' news' h' tk, K m' news' → Fr h₀ L h' m' → News h₀ L h' news' → Q .next { s with heap := h', toks := tk })
    (hE : PassesOwn (model prog w) A env E := by passes_own) :
    wpAny (model prog w) A (exec (.While test body [] pos) env) Q E s :=
  while_do J K F N hJ (fun n m₁ news₁ h₁ tk₁ F₁ N₁ j => turn n m₁ news₁ h₁ tk₁ _ _ (fun _ x => x) (fun _ x => x) (fun _ x => x) F₁ N₁ j) done hE
/-- a statement with what stands behind it, and the rest once -/
theorem execs_join {st : Stmt} {rest : List Stmt} (J : (Str → Option Value) → List (Addr × Obj) → Prop)
    (h1 : ∀ Y : Shared → Prop, (∀ s', Stands h₀ L s J s' → Y s') → wpAny (model prog w) A (exec st env) (fun f s' => match f with | .next => Y s' | f => Q f s') E s)
    (h2 : ∀ m' news' h' tk, J m' news' → Fr h₀ L h' m' → News h₀ L h' news' → wpAny (model prog w) A (execs rest env) Q E { s with heap := h', toks := tk }) :
    wpAny (model prog w) A (execs (st :: rest) env) Q E s :=
  wpAny_execs_cons (h1 _ (by rintro _ ⟨h', tk, m', n', rfl, F, N, k⟩; exact h2 m' n' h' tk k F N))
theorem wp_gen {α : Type} {M : Model} {m : Sem α} {Q : α → Shared → Prop} (h : ∀ Q' : α → Shared → Prop, (∀ v s', Q v s' → Q' v s') → wpAny M A m Q' E s) : wpAny M A m Q E s := h Q fun _ _ x => x
end
/-! values of shifts and ors -/
end Mine
end

section
open PySem PySem.W PyProof.Rows PySem.Spec PySem.Calls
set_option Elab.async false
namespace Mine
section
variable {prog : Program} {w : World} {A : Around} {E : Value → Shared → Prop} {s : Shared} {h₀ : Heap} {L la : Addr} {m : Str → Option Value} {news news' : List (Addr × Obj)} {us : List Value} {ns : List Int} {c : Nat}
theorem led_list (N : News h₀ L s.heap news) (hm : (la, listOf us.toArray c) ∈ news) : s.heap.IsList la us.toArray := ⟨_, (N _ hm).1, rfl, c, rfl⟩
theorem j_truth {Q : Bool → Shared → Prop} (N : News h₀ L s.heap news) (hm : (la, listOf us.toArray c) ∈ news) (hfit : (us.length : Int) < 2 ^ 63) (h : ∀ tk, Q (!us.isEmpty) { s with toks := tk }) :
    wpAny (model prog w) A (truthy (.ref la)) Q E s := by
  refine wpAny_truthy_list (led_list N hm) (by rw [List.size_toArray]; exact hfit) ?_
  have e : us.toArray.isEmpty = us.isEmpty := by cases us <;> rfl
  rw [e]; exact h _
theorem j_last {value slice : Expr} {v : Value} {u : Tok} {Q : Value → Shared → Prop} (N : News h₀ L s.heap news) (hm : (la, listOf (us ++ [v]).toArray c) ∈ news) (hfit : us.length < 16777216) (h : Q v s)
    (hs : subscripted slice false (.ref la) (.int (-1) u) = operate [.ref la, .int (-1) u] (getItem (.ref la) (.int (-1) u)) := by with_unfolding_all rfl) :
    wpAny (model prog w) A (subscriptTail value slice (.ref la) (.int (-1) u)) Q E s := by
  have hl := led_list N hm
  refine tail_any hl.typeIs slot_list_getitem.lookup ?_ hs
  refine wpAny_getItem_list_neg (k := -1) hl (by decide) ?_ (by decide) ?_ h
  · rw [List.size_toArray, List.length_append]; simp only [List.length_cons, List.length_nil]; lia
  · rw [List.size_toArray, List.length_append]
    have e : ((-1 : Int) + ((us.length + [v].length : Nat) : Int)).toNat = us.length := by simp only [List.length_cons, List.length_nil]; lia
    rw [e, List.getElem?_toArray, List.getElem?_append_right (Nat.le_refl _), Nat.sub_self]; rfl
theorem j_appendR {x : Value} {Q : Value → Shared → Prop} (F : Fr h₀ L s.heap m) (N : News h₀ L s.heap news) (U : Upd la (listOf us.toArray c) (listOf (us ++ [x]).toArray (c + 1)) news news') (hz : us.length ≤ 16777216)
    (h : ∀ h', Fr h₀ L h' m → News h₀ L h' news' → Q .none { s with heap := h' }) : wpAny (model prog w) A (call (.builtin "list.append") [.ref la, x]) Q E s := by
  have e1 : us.toArray.push x = (us ++ [x]).toArray := by simp
  exact append_K F N (by rw [e1]; exact U) h (by rw [List.size_toArray, sizeLine_eq]; exact hz)
theorem j_at1 {value slice : Expr} {a b : Value} {u : Tok} {Q : Value → Shared → Prop} (N : News h₀ L s.heap news) (hm : (la, listOf [a, b].toArray c) ∈ news) (h : Q b s)
    (hs : subscripted slice false (.ref la) (.int 1 u) = operate [.ref la, .int 1 u] (getItem (.ref la) (.int 1 u)) := by with_unfolding_all rfl) :
    wpAny (model prog w) A (subscriptTail value slice (.ref la) (.int 1 u)) Q E s :=
  tail_any (led_list N hm).typeIs slot_list_getitem.lookup (wpAny_getItem_list (led_list N hm) (by decide) (by decide) rfl h) hs
end
end Mine
end

section
open PySem PySem.W PyProof.Rows PySem.Spec PySem.Calls
set_option Elab.async false
namespace Mine
section
variable {prog : Program} {w : World} {A : Around} {E : Value → Shared → Prop} {s : Shared} {env : Env} {h₀ : Heap} {body : List Stmt} {Q : Flow → Shared → Prop} {elts : List Expr} {k1 : Nat} {pos : Pos}

/-- over a list in the ledger, a tuple for the target -/
theorem iter_tup {la : Addr} {its : Array Value} {ep : Nat} {m₀ : Str → Option Value} {fixed chg₀ : List (Addr × Obj)} (J : Nat → (Str → Option Value) → List (Addr × Obj) → Prop)
    (hh : A.handled = none) (F : Fr h₀ env.locals s.heap m₀) (N : News h₀ env.locals s.heap (chg₀ ++ fixed)) (hm : (la, listOf its ep) ∈ fixed) (hj : J 0 m₀ chg₀) (ap : ∀ p ∈ chg₀, ∀ q ∈ fixed, q.1 ≠ p.1)
    (turn : ∀ i v m₁ chg h tk tl, its[i]? = some v → J i m₁ chg → (∀ p ∈ chg, p.1 ≠ s.heap.objs.size) → Tail s.heap.objs.size s.heap.objs.size [s.heap.objs.size, la] fixed chg₀ tl →
      Fr h₀ env.locals h m₁ → News h₀ env.locals h (chg ++ tl) →
      wpAny (model prog w) A (assign (.Tuple elts k1 pos) env v) (fun _ s₃ => wpAny (model prog w) A (execs body env) (Turn h₀ env.locals s.heap.objs.size tl (J (i + 1)) { s with heap := h, toks := tk } Q) E s₃) E { s with heap := h, toks := tk })
    (done : ∀ m₁ chg h tk, J its.size m₁ chg → Fr h₀ env.locals h m₁ → News h₀ env.locals h (chg ++ fixed) → Q .next { s with heap := h, toks := tk }) :
    wpAny (model prog w) A (pyIter (.ref la)) (fun it s₂ => TurnsAt prog w A h₀ env (.Tuple elts k1 pos) body Q E it s₂) E s := by
  have hmn : (la, listOf its ep) ∈ chg₀ ++ fixed := List.mem_append_right _ hm
  have hls : s.heap.IsList la its := ⟨_, (N _ hmn).1, rfl, _, rfl⟩
  have hlt : la < s.heap.objs.size := Heap.lt_size (N _ hmn).1
  have hB : ∀ b : Addr, s.heap.objs.size ≤ b → h₀.get? b = none := fresh_from F
  have hlow : ∀ p ∈ chg₀ ++ fixed, p.1 < s.heap.objs.size := fun p hp => Heap.lt_size (N p hp).1
  refine wpAny_pyIter_list hls ?_
  have W := Walks.list (prog := prog) (w := w) hh s.heap.objs.size la (Nat.ne_of_lt hlt) its
  have KT := KTurns.ofWalks (target := .Tuple elts k1 pos) W (fun i v s Q E st hq => by
    cases v with
    | ref a => exact wpAny_letOwnedTupleGo_listiter st.1 hq
    | _ => exact wpAny_pure hq)
  refine ⟨s.heap.objs.size, _, _, its.size, _, _, _, m₀, chg₀ ++ fixed, fun i m nx => ∃ chg, nx = chg ++ fixed ∧ (∀ p ∈ chg, p.1 ≠ s.heap.objs.size) ∧ J i m chg, rfl, KT, ?_, ?_, ?_, ⟨⟨_, Heap.get?_push_size _ rfl, rfl, rfl⟩, hls.push _⟩, F.push _, news_grow N fun b o e => Heap.get?_push_of_some _ e, ⟨chg₀, rfl, fun p hp => Nat.ne_of_lt (hlow p (List.mem_append_left _ hp)), hj⟩, ?_, ?_⟩
  · intro hb
    rcases List.mem_cons.mp hb with q | q
    · exact absurd F.ns.lt (by rw [q]; exact Nat.lt_irrefl _)
    · exact (N _ hmn).2.1 (List.mem_singleton.mp q).symm
  · intro b hb; rw [List.mem_singleton.mp hb]; exact hB _ (Nat.le_refl _)
  · intro p hp hq; exact Nat.ne_of_lt (hlow p hp) (List.mem_singleton.mp hq)
  · rintro i v m₁ nw h₁ tk₁ own hi hP ⟨chg, rfl, hne, hJ⟩ hoff hown hget hall hst F₁ N₁
    have hoB : ∃ o, (s.heap.objs.size, o) ∈ own := by
      obtain ⟨⟨o, ho, _⟩, _⟩ := hst
      exact ⟨o, hall _ List.mem_cons_self (hB _ (Nat.le_refl _)) o ho⟩
    have N₂ : News h₀ env.locals h₁ (chg ++ (fixed ++ own)) := fun p hp => N₁ p (by simp only [List.mem_append] at hp ⊢; rcases hp with h | h | h <;> simp [h])
    have hold : ∀ q ∈ own, q ∈ fixed ∨ (s.heap.objs.size ≤ q.1 ∧ q.1 ∈ [s.heap.objs.size, la]) := by
      intro q hq
      rcases List.mem_cons.mp (hown q hq) with e | e
      · exact .inr ⟨by rw [e]; exact Nat.le_refl _, by rw [e]; exact List.mem_cons_self⟩
      · left
        have e' := List.mem_singleton.mp e
        have g := (N₂ q (List.mem_append_right _ (List.mem_append_right _ hq))).1
        have g' := (N₂ (la, listOf its ep) (List.mem_append_right _ (List.mem_append_left _ hm))).1
        rw [e'] at g
        have : q.2 = listOf its ep := Option.some.inj (g.symm.trans g')
        have q2 : q = (la, listOf its ep) := Prod.ext e' this
        rw [q2]; exact hm
    have T : Tail s.heap.objs.size s.heap.objs.size [s.heap.objs.size, la] fixed chg₀ (fixed ++ own) := by
      refine ⟨fun p hp => List.mem_append_left _ hp, fun p hp q hq => ?_, fun q hq => ?_, fun q hq => hlow q (List.mem_append_right _ hq), fun q hq => hlow q (List.mem_append_left _ hq), Nat.le_refl _, ?_⟩
      · rcases List.mem_append.mp hq with hq | hq
        · exact ap p hp q hq
        · rcases hold q hq with h1 | h1
          · exact ap p hp q h1
          · exact fun e => absurd (e ▸ h1.1) (Nat.not_le.mpr (hlow p (List.mem_append_left _ hp)))
      · rcases List.mem_append.mp hq with hq | hq
        · exact .inl hq
        · exact hold q hq
      · obtain ⟨o, ho⟩ := hoB; exact ⟨o, List.mem_append_right _ ho⟩
    refine wpAny_mono (turn i v m₁ chg h₁ tk₁ (fixed ++ own) hP hJ hne T F₁ N₂) (fun _ s₃ p => wpAny_mono p (fun f s₄ q => ?_) fun _ _ e => e) fun _ _ e => e
    have fin : (∃ h' tk m' news' chg', s₄ = { s with heap := h', toks := tk } ∧ Fr h₀ env.locals h' m' ∧ News h₀ env.locals h' news' ∧ (∀ p ∈ fixed ++ own, p ∈ news') ∧ (∀ p ∈ chg', p ∈ news') ∧ (∀ p ∈ chg', p.1 ≠ s.heap.objs.size) ∧ J (i + 1) m' chg') →
        LoopStepU h₀ env.locals [s.heap.objs.size] own (fun m nx => ∃ chg, nx = chg ++ fixed ∧ (∀ p ∈ chg, p.1 ≠ s.heap.objs.size) ∧ J (i + 1) m chg) { s with heap := h₁, toks := tk₁ } .next s₄ := by
      rintro ⟨h', tk, m', news', chg', e, F', N', h1, h2, h3, h4⟩
      refine ⟨rfl, h', tk, m', chg' ++ fixed, e, F', fun p hp => N' p ?_, fun p hp hq => ?_, chg', rfl, h3, h4⟩
      · rcases List.mem_append.mp hp with h | h
        · exact h1 p (List.mem_append_right _ h)
        · exact (List.mem_append.mp h).elim (h2 p) fun h => h1 p (List.mem_append_left _ h)
      · have hq' := List.mem_singleton.mp hq
        rcases List.mem_append.mp hp with h | h
        · exact h3 p h hq'
        · exact Nat.ne_of_lt (hlow p (List.mem_append_right _ h)) hq'
    cases f with
    | ret v => exact .ret q
    | brk => exact .brk q
    | next => exact .next (fin q)
    | cont => exact .cont (fin q)
  · rintro h' tk m' nw F' N' _ ⟨chg, rfl, _, hJ⟩
    exact done m' chg h' tk hJ F' N'
end
end Mine
end

section
open PySem PySem.W PyProof.Rows PySem.Spec PySem.Calls
set_option Elab.async false
namespace Mine
section
variable {prog : Program} {w : World} {A : Around} {E : Value → Shared → Prop} {s : Shared} {env : Env} {h₀ : Heap} {x : Str} {body : List Stmt} {Q : Flow → Shared → Prop}
/-- over range(n) -/
theorem iter_rng {r : Addr} {b : Int} {t₁ u₁ v₁ : Tok} {n : Nat} {m₀ : Str → Option Value} {fixed chg₀ : List (Addr × Obj)} (J : Nat → (Str → Option Value) → List (Addr × Obj) → Prop)
    (hh : A.handled = none) (hr : IsRange s.heap r 0 b 1 t₁ u₁ v₁) (hb : b = (n : Int)) (hn : n < 1152921504606846976) (F : Fr h₀ env.locals s.heap m₀) (N : News h₀ env.locals s.heap (chg₀ ++ fixed)) (hj : J 0 m₀ chg₀) (ap : ∀ p ∈ chg₀, ∀ q ∈ fixed, q.1 ≠ p.1)
    (turn : ∀ (i : Nat) t m₁ chg h tk tl, i < n → J i m₁ chg → (∀ p ∈ chg, p.1 ≠ s.heap.objs.size) → Tail s.heap.objs.size s.heap.objs.size [s.heap.objs.size] fixed chg₀ tl →
      Fr h₀ env.locals h (fun y => if y = x then some (.int (i : Int) t) else m₁ y) → News h₀ env.locals h (chg ++ tl) →
      wpAny (model prog w) A (execs body env) (Turn h₀ env.locals s.heap.objs.size tl (J (i + 1)) { s with heap := h, toks := tk } Q) E { s with heap := h, toks := tk })
    (done : ∀ m₁ chg h tk, J n m₁ chg → Fr h₀ env.locals h m₁ → News h₀ env.locals h (chg ++ fixed) → Q .next { s with heap := h, toks := tk }) :
    wpAny (model prog w) A (pyIter (.ref r)) (fun it s₂ => LoopAtV prog w A h₀ env x body Q E it s₂) E s := by
  subst hb
  have hrs : Builtin.Range.rangeSize 0 (n : Int) 1 = (n : Int) := by rw [rangeSize_nat]; lia
  refine wpAny_pyIter_range hr (small_one (by decide) (by decide) (by lia) (by lia)) ?_
  have W := (Walks.range (prog := prog) (w := w) hh s.heap.objs.size 0 1 n).bound
  refine loop_keep (s := { s with heap := s.heap.push { cls := .type "range_iterator", data := .fields #[rawInt 0, rawInt (Builtin.Range.rangeSize 0 (n : Int) 1), rawInt 1] } }) (B := s.heap.objs.size) J W (fun hb => ?_) (Nat.le_refl _) (fresh_from F) List.mem_cons_self (fun i h st => ⟨_, st⟩)
    (by show IsRangeIter _ _ _ _ _; rw [hrs]; simpa using Heap.get?_push_size _ rfl) (F.push _) (news_grow N fun b o e => Heap.get?_push_of_some _ e) (fun p hp => Heap.lt_size (N p hp).1) (fun b hb => ?_) hj ap ?_ (fun m₁ chg h tk hJ F₁ N₁ => done m₁ chg h tk hJ F₁ N₁)
  · rw [List.mem_singleton] at hb
    exact absurd F.ns.lt (by rw [hb]; exact Nat.lt_irrefl _)
  · rw [List.mem_singleton.mp hb]; exact .inr (.inr (Nat.le_refl _))
  · rintro i v m₁ chg h tk tl hi' ⟨_, t, rfl⟩ hJ hne hT F₁ N₁
    have e : (0 : Int) + (i : Int) * 1 = (i : Int) := by lia
    rw [e] at F₁
    exact turn i t m₁ chg h tk tl hi' hJ hne hT F₁ N₁
end
end Mine
end

section
open PySem PySem.W PyProof.Rows PySem.Spec PySem.Calls
set_option Elab.async false
namespace Mine
noncomputable def Open0 (R : List Row) : Prop := ∀ z R', R ≠ (z, []) :: R'
theorem foldl_zeros {R : List Row} (h : Open0 R) : ∀ z, 0 < z → (List.replicate z (0 : Int)).foldl addW R = (z, []) :: R := by
  intro z hz
  have step : ∀ (n z : Nat), (List.replicate n (0 : Int)).foldl addW ((z, []) :: R) = (z + n, []) :: R := by
    intro n
    induction n with
    | zero => intro z; rfl
    | succ n ih =>
      intro z
      rw [List.replicate_succ, List.foldl_cons]
      show List.foldl addW ((z + 1, []) :: R) _ = _
      rw [ih, Nat.add_assoc, Nat.add_comm 1 n]
  cases z with
  | zero => lia
  | succ z =>
    rw [List.replicate_succ, List.foldl_cons]
    have e : addW R 0 = (1, []) :: R := by
      unfold addW
      rw [if_pos rfl]
      split
      · rename_i z R'; exact absurd rfl (h z R')
      · rfl
    rw [e, step, Nat.add_comm 1 z]
theorem foldl_lits {ls : List Int} (h : ∀ x ∈ ls, x ≠ 0) : ∀ (z : Nat) (l0 : List Int) (R : List Row), ls.foldl addW ((z, l0) :: R) = (z, l0 ++ ls) :: R := by
  induction ls with
  | nil => intro z l0 R; simp
  | cons x ls ih =>
    intro z l0 R
    rw [List.foldl_cons]
    have e : addW ((z, l0) :: R) x = (z, l0 ++ [x]) :: R := by
      unfold addW
      rw [if_neg (h x (.head _))]
    rw [e, ih (fun y hy => h y (.tail _ hy)), List.append_assoc]; rfl
theorem foldl_row {R : List Row} {z : Nat} {ls : List Int} (h : ∀ x ∈ ls, x ≠ 0) (hR : Open0 R) (hz : 0 < z ∨ (R = [] ∧ ls ≠ [])) : (List.replicate z (0 : Int) ++ ls).foldl addW R = (z, ls) :: R := by
  rw [List.foldl_append]
  rcases Nat.eq_zero_or_pos z with e | hp
  · subst e
    obtain ⟨rfl, hl⟩ := hz.resolve_left (Nat.lt_irrefl _)
    cases ls with
    | nil => exact absurd rfl hl
    | cons x ls =>
      show List.foldl addW (addW [] x) ls = _
      have e : addW [] x = [(0, [x])] := by
        unfold addW
        rw [if_neg (h x (.head _))]
      rw [e, foldl_lits fun y hy => h y (.tail _ hy)]; rfl
  · rw [foldl_zeros hR z hp, foldl_lits h]; rfl
theorem rows_step {ns : List Int} {i z k : Nat} (hlen : i + z + k ≤ ns.length) (hz : ∀ j, j < z → ns.getD (i + j) 0 = 0) (hk : ∀ j, j < k → ns.getD (i + z + j) 0 ≠ 0)
    (hR : Open0 (rowsS (ns.take i))) (h0 : 0 < z ∨ (i = 0 ∧ 0 < k)) : rowsS (ns.take (i + z + k)) = (z, (ns.drop (i + z)).take k) :: rowsS (ns.take i) := by
  have e1 : ns.take (i + z + k) = ns.take i ++ (List.replicate z 0 ++ (ns.drop (i + z)).take k) := by
    rw [show i + z + k = (i + z) + k from rfl, List.take_add, List.take_add, List.append_assoc]
    congr 2
    refine List.ext_getElem ?_ fun j h1 h2 => ?_
    · rw [List.length_take, List.length_drop, List.length_replicate]; lia
    · rw [List.getElem_replicate, List.getElem_take, List.getElem_drop]
      have hj : j < z := by rw [List.length_replicate] at h2; exact h2
      have := hz j hj
      rw [List.getD_eq_getElem?_getD, List.getElem?_eq_getElem (by lia)] at this
      exact this
  rw [e1]
  unfold rowsS
  rw [List.foldl_append]
  refine foldl_row (fun x hx => ?_) hR ?_
  · obtain ⟨j, hj, e⟩ := List.mem_iff_getElem.mp hx
    rw [List.length_take, List.length_drop] at hj
    rw [List.getElem_take, List.getElem_drop] at e
    have := hk j (by lia)
    rw [List.getD_eq_getElem?_getD, List.getElem?_eq_getElem (by lia)] at this
    rw [← e]; exact this
  · rcases h0 with h | ⟨h, h'⟩
    · exact .inl h
    · refine .inr ⟨?_, fun e => ?_⟩
      · subst h; rfl
      · have := congrArg List.length e
        rw [List.length_take, List.length_drop] at this
        simp at this
        lia
theorem toldOf_cons (r : Row) (R : List Row) : toldOf (r :: R) = toldOf R ++ (mark r :: r.2) := by
  unfold toldOf
  rw [List.reverse_cons, List.flatMap_append]
  simp
theorem take_more {ns : List Int} {j k : Nat} (h : j + k < ns.length) : (ns.drop j).take (k + 1) = (ns.drop j).take k ++ [ns.getD (j + k) 0] := by
  rw [List.take_add_one, List.getElem?_drop, List.getElem?_eq_getElem h, List.getD_eq_getElem?_getD, List.getElem?_eq_getElem h]
  rfl
theorem bitOr_nat (a b : Nat) : Builtin.bitOr (a : Int) (b : Int) = ((a ||| b : Nat) : Int) := by
  have hn : ∀ x : Nat, Builtin.bitNot (x : Int) = -(x : Int) - 1 := fun x => by unfold Builtin.bitNot; lia
  have hnn : ∀ x : Int, Builtin.bitNot (Builtin.bitNot x) = x := fun x => by unfold Builtin.bitNot; lia
  unfold Builtin.bitOr Builtin.bitAnd
  rw [decide_eq_false (show ¬ (0 : Int) ≤ Builtin.bitNot (a : Int) by rw [hn]; lia), decide_eq_false (show ¬ (0 : Int) ≤ Builtin.bitNot (b : Int) by rw [hn]; lia)]
  dsimp only
  rw [hnn, hnn, hnn, Int.toNat_natCast, Int.toNat_natCast]
theorem bitOr_zero (x : Int) : Builtin.bitOr x 0 = x := by
  rw [bitOr_and]
  have : Builtin.bitAnd x 0 = 0 := by
    have := (bitAnd_range x (y := 0) (Int.le_refl _)); lia
  lia
theorem bitOr_mark (a b : Nat) (hb : b < 2 ^ 32) : Builtin.bitOr ((a : Int) * 2 ^ 33) ((b : Int) * 2) = (a : Int) * 2 ^ 33 + b * 2 := by
  have e := bitOr_nat (a * 2 ^ 33) (b * 2)
  have h := Nat.two_pow_add_eq_or_of_lt (i := 33) (b := b * 2) (by lia) a
  rw [Nat.mul_comm a, ← h] at e
  have e1 : ((2 ^ 33 * a : Nat) : Int) = (a : Int) * 2 ^ 33 := by rw [Nat.mul_comm, Int.natCast_mul]; rfl
  have e2 : ((b * 2 : Nat) : Int) = (b : Int) * 2 := by rw [Int.natCast_mul]; rfl
  rw [e1, e2] at e
  rw [e, ← e1, ← e2]
  exact Int.natCast_add _ _
end Mine
end

section
open PySem PySem.W PyProof.Rows PySem.Spec PySem.Calls
set_option Elab.async false
namespace Mine
/-- the law's dict behind the places -/
noncomputable def lawPut (c : List (Int × Int)) (p : Int) : List (Int × Int) := kdfPut c (p.fdiv 64) (Builtin.bitOr (kdfLook c (p.fdiv 64) 0) (1 * 2 ^ (p.fmod 64).toNat))
noncomputable def lawC (ps : List Int) : List (Int × Int) := ps.foldl lawPut []
theorem lawC_take {ps : List Int} {i : Nat} {p : Int} (h : ps[i]? = some p) : lawC (ps.take (i + 1)) = lawPut (lawC (ps.take i)) p := by
  unfold lawC
  rw [List.take_add_one, h, List.foldl_append]; rfl
theorem lawC_snoc (ps : List Int) (p : Int) : lawC (ps ++ [p]) = lawPut (lawC ps) p := by
  unfold lawC; rw [List.foldl_append]; rfl
/-- the word of number j that the places make -/
noncomputable def wordAt (ps : List Int) (j : Int) : Nat := ps.foldl (fun acc p => if p.fdiv 64 = j then acc ||| 2 ^ (p.fmod 64).toNat else acc) 0
theorem wordAt_snoc (ps : List Int) (p j : Int) : wordAt (ps ++ [p]) j = if p.fdiv 64 = j then wordAt ps j ||| 2 ^ (p.fmod 64).toNat else wordAt ps j := by
  unfold wordAt; rw [List.foldl_append]; rfl
theorem list_snoc_induction {α : Type} {P : List α → Prop} (h0 : P []) (hs : ∀ l x, P l → P (l ++ [x])) : ∀ l, P l := by
  intro l
  have : ∀ r : List α, P r.reverse := by
    intro r
    induction r with
    | nil => exact h0
    | cons x r ih => rw [List.reverse_cons]; exact hs _ _ ih
  have := this l.reverse
  rwa [List.reverse_reverse] at this
theorem kdfLook_put (c : List (Int × Int)) (k v j : Int) : kdfLook (kdfPut c k v) j 0 = if j = k then v else kdfLook c j 0 := by
  unfold kdfPut
  by_cases hc : (c.any fun p => decide (p.1 = k)) = true
  · rw [if_pos hc]
    unfold kdfLook
    induction c with
    | nil => simp at hc
    | cons q c ih =>
      rw [List.map_cons, List.find?_cons, List.find?_cons]
      by_cases hq : q.1 = k
      · rw [if_pos (decide_eq_true hq)]
        by_cases hj : j = k
        · subst hj; simp [hq]
        · have h1 : ¬ k = j := fun e => hj e.symm
          have h2 : ¬ q.1 = j := by rw [hq]; exact h1
          simp only [h2, decide_false, if_neg hj]
          by_cases hc' : (c.any fun p => decide (p.1 = k)) = true
          · have := ih hc'; rw [if_neg hj] at this; exact this
          · have e : c.map (fun p => if decide (p.1 = k) = true then (p.1, v) else p) = c := by
              refine (List.map_congr_left fun p hp => ?_).trans (List.map_id c)
              have : ¬ p.1 = k := fun e => hc' (List.any_eq_true.mpr ⟨p, hp, decide_eq_true e⟩)
              simp [this]
            rw [e]
      · rw [if_neg (by simpa using hq)]
        have hc' : (c.any fun p => decide (p.1 = k)) = true := by
          rw [List.any_cons] at hc; simpa [hq] using hc
        by_cases hqj : q.1 = j
        · have hjk : ¬ j = k := by rw [← hqj]; exact hq
          simp [hqj, hjk]
        · simp only [hqj, decide_false]
          exact ih hc'
  · rw [if_neg hc]
    unfold kdfLook
    rw [List.find?_append]
    by_cases hj : j = k
    · subst hj
      have : c.find? (fun p => decide (p.1 = j)) = none := by
        rw [List.find?_eq_none]
        intro p hp q
        exact hc (List.any_eq_true.mpr ⟨p, hp, q⟩)
      rw [this]; simp
    · have h1 : ¬ k = j := fun e => hj e.symm
      simp [h1, hj]
theorem kdfPut_nodup {c : List (Int × Int)} (h : (c.map (·.1)).Nodup) (k v : Int) : ((kdfPut c k v).map (·.1)).Nodup := by
  unfold kdfPut
  by_cases hc : (c.any fun p => decide (p.1 = k)) = true
  · rw [if_pos hc]
    have e : (c.map fun p => if decide (p.1 = k) = true then (p.1, v) else p).map (·.1) = c.map (·.1) := by
      rw [List.map_map]
      refine List.map_congr_left fun p _ => ?_
      show (if decide (p.1 = k) = true then (p.1, v) else p).1 = p.1
      split <;> rfl
    rw [e]; exact h
  · rw [if_neg hc, List.map_append]
    refine List.nodup_append.mpr ⟨h, by simp, fun x hx y hy => ?_⟩
    simp only [List.map_cons, List.map_nil, List.mem_singleton] at hy
    subst hy
    obtain ⟨p, hp, e⟩ := List.mem_map.mp hx
    exact fun q => hc (List.any_eq_true.mpr ⟨p, hp, decide_eq_true (e.trans q)⟩)
theorem lawC_nodup (ps : List Int) : ((lawC ps).map (·.1)).Nodup := by
  refine list_snoc_induction (P := fun ps => ((lawC ps).map (·.1)).Nodup) (by simp [lawC]) (fun l x h => ?_) ps
  rw [lawC_snoc]; exact kdfPut_nodup h _ _
theorem lawC_has (ps : List Int) (j : Int) : kdfHas (lawC ps) j = true ↔ ∃ p ∈ ps, p.fdiv 64 = j := by
  refine list_snoc_induction (P := fun ps => kdfHas (lawC ps) j = true ↔ ∃ p ∈ ps, p.fdiv 64 = j) (by simp [lawC, kdfHas]) (fun l x h => ?_) ps
  rw [lawC_snoc]
  unfold lawPut
  rw [kdyHas_put, Bool.or_eq_true, decide_eq_true_eq, h]
  constructor
  · rintro (e | ⟨p, hp, e⟩)
    · exact ⟨x, by simp, e.symm⟩
    · exact ⟨p, by simp [hp], e⟩
  · rintro ⟨p, hp, e⟩
    rcases List.mem_append.mp hp with hp | hp
    · exact .inr ⟨p, hp, e⟩
    · rw [List.mem_singleton.mp hp] at e; exact .inl e.symm
theorem lawC_look {ps : List Int} (j : Int) : kdfLook (lawC ps) j 0 = (wordAt ps j : Int) := by
  refine list_snoc_induction (P := fun ps => ∀ j, kdfLook (lawC ps) j 0 = (wordAt ps j : Int)) (fun j => by simp [lawC, kdfLook, wordAt]) (fun l x h j => ?_) ps j
  rw [lawC_snoc, wordAt_snoc]
  unfold lawPut
  rw [kdfLook_put]
  by_cases e : j = x.fdiv 64
  · rw [if_pos e, if_pos e.symm, ← e, h j]
    have e2 : (1 : Int) * 2 ^ (x.fmod 64).toNat = ((2 ^ (x.fmod 64).toNat : Nat) : Int) := by
      rw [Int.one_mul]; norm_cast
    rw [e2, bitOr_nat]
  · rw [if_neg e, if_neg (fun q => e q.symm), h j]
theorem wordAt_bit (ps : List Int) (j : Int) (i : Nat) : (wordAt ps j).testBit i = true ↔ ∃ p ∈ ps, p.fdiv 64 = j ∧ (p.fmod 64).toNat = i := by
  refine list_snoc_induction (P := fun ps => (wordAt ps j).testBit i = true ↔ ∃ p ∈ ps, p.fdiv 64 = j ∧ (p.fmod 64).toNat = i) (by simp [wordAt]) (fun l x h => ?_) ps
  rw [wordAt_snoc]
  by_cases e : x.fdiv 64 = j
  · rw [if_pos e, Nat.testBit_or, Bool.or_eq_true, h, Nat.testBit_two_pow, decide_eq_true_eq]
    constructor
    · rintro (⟨p, hp, q⟩ | q)
      · exact ⟨p, by simp [hp], q⟩
      · exact ⟨x, by simp, e, q⟩
    · rintro ⟨p, hp, q⟩
      rcases List.mem_append.mp hp with hp | hp
      · exact .inl ⟨p, hp, q⟩
      · rw [List.mem_singleton.mp hp] at q; exact .inr q.2
  · rw [if_neg e, h]
    constructor
    · rintro ⟨p, hp, q⟩; exact ⟨p, by simp [hp], q⟩
    · rintro ⟨p, hp, q⟩
      rcases List.mem_append.mp hp with hp | hp
      · exact ⟨p, hp, q⟩
      · rw [List.mem_singleton.mp hp] at q; exact absurd q.1 e
theorem wordAt_congr {ps qs : List Int} (h : ∀ p, p ∈ ps ↔ p ∈ qs) (j : Int) : wordAt ps j = wordAt qs j := by
  refine Nat.eq_of_testBit_eq fun i => ?_
  have a := wordAt_bit ps j i
  have b := wordAt_bit qs j i
  have c : (∃ p ∈ ps, p.fdiv 64 = j ∧ (p.fmod 64).toNat = i) ↔ ∃ p ∈ qs, p.fdiv 64 = j ∧ (p.fmod 64).toNat = i := by simp only [h]
  rw [Bool.eq_iff_iff, a, b, c]
theorem wordAt_ne {ps : List Int} {j : Int} (h : ∃ p ∈ ps, p.fdiv 64 = j) : wordAt ps j ≠ 0 := by
  obtain ⟨p, hp, e⟩ := h
  intro q
  have := (wordAt_bit ps j (p.fmod 64).toNat).mpr ⟨p, hp, e, rfl⟩
  rw [q] at this; simp at this
theorem wordAt_zero {ps : List Int} {j : Int} (h : ¬ ∃ p ∈ ps, p.fdiv 64 = j) : wordAt ps j = 0 := by
  refine Nat.eq_of_testBit_eq fun i => ?_
  rw [Nat.zero_testBit, Bool.eq_false_iff]
  intro q
  obtain ⟨p, hp, e, _⟩ := (wordAt_bit ps j i).mp q
  exact h ⟨p, hp, e⟩
/-- the words from nought up to n -/
noncomputable def wordsTo (ps : List Int) (n : Nat) : List Int := (List.range n).map fun (j : Nat) => (wordAt ps (j : Int) : Int)
theorem wordsTo_add (ps : List Int) {n k : Nat} (hk : n ≤ k) (h : ∀ j : Nat, n ≤ j → j < k → ¬ ∃ p ∈ ps, p.fdiv 64 = (j : Int)) :
    wordsTo ps (k + 1) = wordsTo ps n ++ (List.replicate (k - n) 0 ++ [(wordAt ps k : Int)]) := by
  obtain ⟨g, rfl⟩ : ∃ g, k = n + g := ⟨k - n, by lia⟩
  rw [Nat.add_sub_cancel_left]
  unfold wordsTo
  rw [List.range_succ, List.map_append, List.range_add, List.map_append, List.append_assoc]
  congr 2
  rw [List.map_map]
  refine List.ext_getElem (by simp) fun i h1 h2 => ?_
  simp only [List.getElem_map, List.getElem_range, Function.comp, List.getElem_replicate]
  simp only [List.length_replicate] at h2
  rw [wordAt_zero (h (n + i) (by lia) (by lia))]; rfl
end Mine
end

section
open PySem PySem.W PyProof.Rows PySem.Spec PySem.Calls
set_option Elab.async false
namespace Mine
theorem lt_get {ks : List Int} (h : ks.Pairwise (· < ·)) {i j : Nat} (hij : i < j) (hj : j < ks.length) : ks.getD i 0 < ks.getD j 0 := by
  have := List.pairwise_iff_getElem.mp h i j (by lia) hj hij
  rw [List.getD_eq_getElem?_getD, List.getD_eq_getElem?_getD, List.getElem?_eq_getElem (by lia), List.getElem?_eq_getElem hj]
  exact this
theorem strict_of {ks : List Int} (h : ks.Pairwise (· ≤ ·)) (hn : ks.Nodup) : ks.Pairwise (· < ·) := by
  have := List.pairwise_and_iff.mpr ⟨h, hn⟩
  refine this.imp fun {a b} q => ?_
  have := q.2
  lia
/-- where the law stands ahead of the turn i -/
noncomputable def atOf (ks : List Int) (i : Nat) : Int := if i = 0 then 0 else ks.getD (i - 1) 0 + 1
theorem atOf_le {ks : List Int} (h : ks.Pairwise (· < ·)) (h0 : ∀ x ∈ ks, 0 ≤ x) {i : Nat} (hi : i < ks.length) : atOf ks i ≤ ks.getD i 0 := by
  unfold atOf
  split
  · refine h0 _ ?_
    rw [List.getD_eq_getElem?_getD, List.getElem?_eq_getElem hi]; exact List.getElem_mem hi
  · have := lt_get h (show i - 1 < i by lia) hi; lia
theorem gap {ks : List Int} (h : ks.Pairwise (· < ·)) {i : Nat} (hi : i < ks.length) {j : Int} (h1 : atOf ks i ≤ j) (h2 : j < ks.getD i 0) : j ∉ ks := by
  intro hm
  obtain ⟨q, hq, e⟩ := List.mem_iff_getElem.mp hm
  have e' : ks.getD q 0 = j := by rw [List.getD_eq_getElem?_getD, List.getElem?_eq_getElem hq]; exact e
  rcases Nat.lt_or_ge q i with c | c
  · unfold atOf at h1
    rw [if_neg (by lia)] at h1
    rcases Nat.lt_or_ge q (i - 1) with d | d
    · have := lt_get h d (by lia); lia
    · have : q = i - 1 := by lia
      subst this; lia
  · rcases Nat.lt_or_ge i q with d | d
    · have := lt_get h d hq; lia
    · have : q = i := by lia
      subst this; lia

/-! the law's rows in the heap -/
structure Cell where
  r : Addr
  li : Addr
  run : Int
  t : Tok
  vs : List Value
  ls : List Int
  n1 : Nat
  n2 : Nat
noncomputable def cellL (c : Cell) : List (Addr × Obj) := [(c.r, listOf [Value.int c.run c.t, Value.ref c.li].toArray c.n1), (c.li, listOf c.vs.toArray c.n2)]
noncomputable def cellsL (cs : List Cell) : List (Addr × Obj) := cs.flatMap cellL
noncomputable def refsOf (cs : List Cell) : List Value := (cs.map fun c => Value.ref c.r).reverse
noncomputable def rowOf (c : Cell) : Row := (c.run.toNat, c.ls)
noncomputable def CellsOk (B : Addr) : List Cell → Prop
  | [] => True
  | c :: cs => B < c.li ∧ c.li < c.r ∧ (∀ p ∈ cellsL cs, p.1 < c.li) ∧ IntsAre c.vs c.ls ∧ 0 ≤ c.run ∧ CellsOk B cs
theorem cellsL_cons (c : Cell) (cs : List Cell) : cellsL (c :: cs) = (c.r, listOf [Value.int c.run c.t, Value.ref c.li].toArray c.n1) :: (c.li, listOf c.vs.toArray c.n2) :: cellsL cs := rfl
theorem refsOf_cons (c : Cell) (cs : List Cell) : refsOf (c :: cs) = refsOf cs ++ [Value.ref c.r] := by unfold refsOf; rw [List.map_cons, List.reverse_cons]
theorem refsOf_length (cs : List Cell) : (refsOf cs).length = cs.length := by unfold refsOf; rw [List.length_reverse, List.length_map]
theorem cells_above {B : Addr} : ∀ {cs : List Cell}, CellsOk B cs → ∀ p ∈ cellsL cs, B < p.1
  | [], _, p, hp => by cases hp
  | c :: cs, h, p, hp => by
    rw [cellsL_cons] at hp
    rcases List.mem_cons.mp hp with e | hp
    · rw [e]; exact Nat.lt_trans h.1 h.2.1
    · rcases List.mem_cons.mp hp with e | hp
      · rw [e]; exact h.1
      · exact cells_above h.2.2.2.2.2 p hp
theorem cells_mem {cs : List Cell} {c : Cell} (h : c ∈ cs) : (c.r, listOf [Value.int c.run c.t, Value.ref c.li].toArray c.n1) ∈ cellsL cs ∧ (c.li, listOf c.vs.toArray c.n2) ∈ cellsL cs :=
  ⟨List.mem_flatMap.mpr ⟨c, h, .head _⟩, List.mem_flatMap.mpr ⟨c, h, .tail _ (.head _)⟩⟩
theorem cells_ints {B : Addr} : ∀ {cs : List Cell}, CellsOk B cs → ∀ c ∈ cs, IntsAre c.vs c.ls ∧ 0 ≤ c.run
  | [], _, c, hc => by cases hc
  | c :: cs, h, c', hc => by
    rcases List.mem_cons.mp hc with e | hc
    · rw [e]; exact ⟨h.2.2.2.1, h.2.2.2.2.1⟩
    · exact cells_ints h.2.2.2.2.2 c' hc
theorem refs_get {cs : List Cell} {i : Nat} {v : Value} (h : (refsOf cs)[i]? = some v) : ∃ c ∈ cs, v = .ref c.r ∧ cs.reverse[i]? = some c := by
  unfold refsOf at h
  rw [← List.map_reverse, List.getElem?_map] at h
  cases hc : cs.reverse[i]? with
  | none => rw [hc] at h; cases h
  | some c =>
    rw [hc] at h
    injection h with h
    exact ⟨c, List.mem_reverse.mp (List.mem_of_getElem? hc), h.symm, rfl⟩
/-- a new row, or the last one goes on -/
theorem addW_gap {R : List Row} {g : Nat} {x : Int} (hx : x ≠ 0) (hR : Open0 R) (hg : 0 < g ∨ R = []) : (List.replicate g (0 : Int) ++ [x]).foldl addW R = (g, [x]) :: R := by
  refine foldl_row (fun y hy => by rw [List.mem_singleton.mp hy]; exact hx) hR ?_
  rcases hg with h | h
  · exact .inl h
  · exact .inr ⟨h, by simp⟩
theorem addW_more {z : Nat} {ls : List Int} {R : List Row} {x : Int} (hx : x ≠ 0) : ([x] : List Int).foldl addW ((z, ls) :: R) = (z, ls ++ [x]) :: R :=
  foldl_lits (fun y hy => by rw [List.mem_singleton.mp hy]; exact hx) z ls R
theorem rows_gap {ps : List Int} {n k : Nat} (hk : n ≤ k) (h : ∀ j : Nat, n ≤ j → j < k → ¬ ∃ p ∈ ps, p.fdiv 64 = (j : Int)) (hx : ∃ p ∈ ps, p.fdiv 64 = (k : Int)) (hR : Open0 (rowsS (wordsTo ps n))) (hg : n < k ∨ rowsS (wordsTo ps n) = []) :
    rowsS (wordsTo ps (k + 1)) = (k - n, [(wordAt ps k : Int)]) :: rowsS (wordsTo ps n) := by
  rw [wordsTo_add ps hk h]
  unfold rowsS
  rw [List.foldl_append]
  refine addW_gap ?_ hR (hg.imp (fun q => by lia) id)
  have := wordAt_ne hx
  lia
theorem rows_more {ps : List Int} {k : Nat} {z : Nat} {ls : List Int} {R : List Row} (hx : ∃ p ∈ ps, p.fdiv 64 = (k : Int)) (e : rowsS (wordsTo ps k) = (z, ls) :: R) :
    rowsS (wordsTo ps (k + 1)) = (z, ls ++ [(wordAt ps k : Int)]) :: R := by
  rw [wordsTo_add ps (Nat.le_refl k) (fun j h1 h2 => by lia), Nat.sub_self]
  unfold rowsS at e ⊢
  rw [List.foldl_append, e]
  refine addW_more ?_
  have := wordAt_ne hx
  lia
theorem open_snoc {z : Nat} {ls : List Int} {x : Int} {R : List Row} : Open0 ((z, ls ++ [x]) :: R) := by
  intro z' R' e
  injection e with e _
  injection e with _ e
  simp at e
end Mine
end

section
open PySem PySem.W PyProof.Rows PySem.Spec PySem.Calls
set_option Elab.async false
namespace Mine
noncomputable def KI (p : Keyed) : Prop := ∃ n t, p.1 = .int n t
noncomputable def kn (p : Keyed) : Int := numOf p.1
noncomputable def gallop' : Bool → Keyed → Array Keyed → Nat → Nat → Nat → StateT SortSt Sem (Option Nat) := sortPriv% PySem.Builtin.gallop
noncomputable def mergeLo' : Array Keyed → Array Keyed → StateT SortSt Sem (Array Keyed) := sortPriv% PySem.Builtin.mergeLo
noncomputable def mergeHi' : Array Keyed → Array Keyed → StateT SortSt Sem (Array Keyed) := sortPriv% PySem.Builtin.mergeHi
section
variable {prog : Program} {w : World} {A : Around} {E : Value → Shared → Prop} {s : Shared}
theorem wpS_lt {st : SortSt} {x y : Keyed} {Q : Option Bool → SortSt → Prop} (hk : kindOf st = oneType') (hx : KI x) (hy : KI y) (h : Q (some (decide (kn x < kn y))) st) :
    wpS (model prog w) A E s (lt' x y) Q st := by
  obtain ⟨a, t, ha⟩ := hx
  obtain ⟨b, u, hb⟩ := hy
  rw [lt'_eq]
  refine wpS_bind (wpS_get ?_)
  rw [hk, keyLt'_oneType]
  unfold kn at h
  rw [ha, hb] at h ⊢
  refine wpS_bind (wpS_lift (wpAny_attempt (oneLt_int ⟨rfl, ?_⟩)))
  exact wpS_pure h
theorem wpS_elem {st : SortSt} {arr : Array Keyed} {i : Nat} {Q : Keyed → SortSt → Prop} (hi : i < arr.size) (h : Q arr[i] st) : wpS (model prog w) A E s (elem' arr i) Q st := by
  rw [elem'_eq, getElem?_pos arr i hi]
  exact wpS_pure h
noncomputable def beyond' (left : Bool) (key : Keyed) (arr : Array Keyed) (base i : Nat) : StateT SortSt Sem (Option Bool) :=
  elem' arr (base + i) >>= fun x => if left = true then lt' x key else lt' key x >>= fun r => pure (r.map (!·))
theorem wpS_beyond {st : SortSt} {left : Bool} {key : Keyed} {arr : Array Keyed} {base i : Nat} {Q : Option Bool → SortSt → Prop} (hk : kindOf st = oneType') (hkey : KI key) (hi : base + i < arr.size) (hx : KI arr[base + i])
    (h : Q (some (if left = true then decide (kn arr[base + i] < kn key) else !decide (kn key < kn arr[base + i]))) st) : wpS (model prog w) A E s (beyond' left key arr base i) Q st := by
  unfold beyond'
  refine wpS_bind (wpS_elem hi ?_)
  cases left with
  | true =>
    simp only [if_true]
    exact wpS_lt hk hx hkey (by simpa using h)
  | false =>
    simp only [Bool.false_eq_true, if_false]
    exact wpS_bind (wpS_lt hk hkey hx (wpS_pure (by simpa using h)))
theorem wpS_gallop {st : SortSt} {left : Bool} {key : Keyed} {arr : Array Keyed} {base n hint : Nat} {Q : Option Nat → SortSt → Prop} {P : Nat → Bool}
    (hk : kindOf st = oneType') (hkey : KI key) (ha : ∀ p ∈ arr.toList, KI p) (hbn : base + n ≤ arr.size) (hh : hint < n)
    (hP : ∀ i, (hi : i < n) → P i = (if left = true then decide (kn (arr[base + i]'(by lia)) < kn key) else !decide (kn key < kn (arr[base + i]'(by lia)))))
    (mono : ∀ i j, i ≤ j → j < n → P j = true → P i = true)
    (h : ∀ k, k ≤ n → (∀ i, i < k → P i = true) → (∀ i, k ≤ i → i < n → P i = false) → Q (some k) st) :
    wpS (model prog w) A E s (gallop' left key arr base n hint) Q st := by
  have bey : ∀ i, i < n → ∀ Q : Option Bool → SortSt → Prop, Q (some (P i)) st → wpS (model prog w) A E s (beyond' left key arr base i) Q st := fun i hi Q hq =>
    wpS_beyond hk hkey (by lia) (ha _ (by simp)) (by rw [← hP i hi]; exact hq)
  with_unfolding_all refine wpS_bind (bey hint hh _ ?_)
  cases hr : P hint with
  | true =>
    dsimp only
    rw [if_pos rfl]
    refine wpS_bind (wpS_mono (wpS_forRange (I := fun x c st' => st = st' ∧ ∃ lastofs ofs, c = (none, lastofs, ofs) ∧ x + 1 ≤ ofs ∧ lastofs < ofs ∧ lastofs < n - hint ∧ P (hint + lastofs) = true)
      (Q := fun c st' => st = st' ∧ ∃ lastofs ofs, c = (none, lastofs, ofs) ∧ lastofs < ofs ∧ lastofs < n - hint ∧ P (hint + lastofs) = true ∧ (ofs < n - hint → P (hint + ofs) = false)) ?step ?fin ⟨rfl, 0, 1, rfl, by lia, by lia, by lia, hr⟩) ?post)
    case fin =>
      rintro c st' ⟨rfl, lastofs, ofs, rfl, b1, b2, b3, b4⟩
      exact ⟨rfl, lastofs, ofs, rfl, b2, b3, b4, fun _ => by lia⟩
    case step =>
      rintro x c st' _ hx ⟨rfl, lastofs, ofs, rfl, b1, b2, b3, b4⟩
      dsimp only
      by_cases hge : ofs ≥ n - hint
      · rw [if_pos hge]
        exact wpS_pure ⟨rfl, lastofs, ofs, rfl, b2, b3, b4, fun _ => by lia⟩
      · rw [if_neg hge]
        with_unfolding_all refine wpS_bind (bey (hint + ofs) (by lia) _ ?_)
        cases hm : P (hint + ofs) with
        | true => exact wpS_pure ⟨rfl, ofs, 2 * ofs + 1, rfl, by lia, by lia, by lia, hm⟩
        | false => exact wpS_pure ⟨rfl, lastofs, ofs, rfl, b2, b3, b4, fun _ => hm⟩
    case post =>
      rintro c st' ⟨rfl, lastofs, ofs, rfl, b2, b3, b4, b5⟩
      dsimp only
      obtain ⟨lo, hlo⟩ : ∃ lo, hint + lastofs + 1 = lo := ⟨_, rfl⟩
      obtain ⟨hi, hhi⟩ : ∃ hi, hint + min ofs (n - hint) = hi := ⟨_, rfl⟩
      rw [hlo, hhi]
      have g1 : lo ≤ hi := by lia
      have g2 : hi ≤ n := by lia
      have g3 : ∀ i, i < lo → P i = true := fun i hi => mono i _ (by lia) (by lia) b4
      have g4 : ∀ i, hi ≤ i → i < n → P i = false := fun i hi hn => by
        have := b5 (by lia)
        exact Bool.eq_false_iff.mpr fun q => by rw [mono (hint + ofs) i (by lia) hn q] at this; exact Bool.noConfusion this
      refine wpS_bind (wpS_mono (wpS_forRange (I := fun x c st' => st = st' ∧ ∃ lo hi, c = (none, lo, hi) ∧ lo ≤ hi ∧ hi ≤ n ∧ hi - lo ≤ n - x ∧ (∀ i, i < lo → P i = true) ∧ (∀ i, hi ≤ i → i < n → P i = false))
        (Q := fun c st' => st = st' ∧ ∃ k, c = (none, k, k) ∧ k ≤ n ∧ (∀ i, i < k → P i = true) ∧ (∀ i, k ≤ i → i < n → P i = false)) ?bstep ?bfin ⟨rfl, lo, hi, rfl, g1, g2, by lia, g3, g4⟩) ?bpost)
      case bpost =>
        rintro c st' ⟨rfl, k, rfl, k1, k2, k3⟩
        exact wpS_pure (h k k1 k2 k3)
      case bfin =>
        rintro c st' ⟨rfl, l, r, rfl, a1, a2, a3, a4, a5⟩
        have e : l = r := by lia
        subst e
        exact ⟨rfl, l, rfl, a2, a4, a5⟩
      case bstep =>
        rintro x c st' _ hx ⟨rfl, l, r, rfl, a1, a2, a3, a4, a5⟩
        dsimp only
        by_cases hge : l ≥ r
        · rw [if_pos hge]
          have e : l = r := by lia
          subst e
          exact wpS_pure ⟨rfl, l, rfl, a2, a4, a5⟩
        · rw [if_neg hge]
          with_unfolding_all refine wpS_bind (bey (l + (r - l) / 2) (by lia) _ ?_)
          cases hm : P (l + (r - l) / 2) with
          | true => exact wpS_pure ⟨rfl, _, r, rfl, by lia, by lia, by lia, fun i hi => mono i _ (by lia) (by lia) hm, a5⟩
          | false => exact wpS_pure ⟨rfl, l, _, rfl, by lia, by lia, by lia, a4, fun i hi hn => Bool.eq_false_iff.mpr fun q => by rw [mono _ i hi hn q] at hm; exact Bool.noConfusion hm⟩
  | false =>
    dsimp only
    rw [if_neg (by decide)]
    refine wpS_bind (wpS_mono (wpS_forRange (I := fun x c st' => st = st' ∧ ∃ lastofs ofs, c = (none, lastofs, ofs) ∧ x + 1 ≤ ofs ∧ lastofs < ofs ∧ lastofs < hint + 1 ∧ P (hint - lastofs) = false)
      (Q := fun c st' => st = st' ∧ ∃ lastofs ofs, c = (none, lastofs, ofs) ∧ lastofs < ofs ∧ lastofs < hint + 1 ∧ P (hint - lastofs) = false ∧ (ofs < hint + 1 → P (hint - ofs) = true)) ?step ?fin ⟨rfl, 0, 1, rfl, by lia, by lia, by lia, hr⟩) ?post)
    case fin =>
      rintro c st' ⟨rfl, lastofs, ofs, rfl, b1, b2, b3, b4⟩
      exact ⟨rfl, lastofs, ofs, rfl, b2, b3, b4, fun _ => by lia⟩
    case step =>
      rintro x c st' _ hx ⟨rfl, lastofs, ofs, rfl, b1, b2, b3, b4⟩
      dsimp only
      by_cases hge : ofs ≥ hint + 1
      · rw [if_pos hge]
        exact wpS_pure ⟨rfl, lastofs, ofs, rfl, b2, b3, b4, fun _ => by lia⟩
      · rw [if_neg hge]
        with_unfolding_all refine wpS_bind (bey (hint - ofs) (by lia) _ ?_)
        cases hm : P (hint - ofs) with
        | true => exact wpS_pure ⟨rfl, lastofs, ofs, rfl, b2, b3, b4, fun _ => hm⟩
        | false => exact wpS_pure ⟨rfl, ofs, 2 * ofs + 1, rfl, by lia, by lia, by lia, hm⟩
    case post =>
      rintro c st' ⟨rfl, lastofs, ofs, rfl, b2, b3, b4, b5⟩
      dsimp only
      obtain ⟨lo, hlo⟩ : ∃ lo, hint + 1 - min ofs (hint + 1) = lo := ⟨_, rfl⟩
      obtain ⟨hi, hhi⟩ : ∃ hi, hint - lastofs = hi := ⟨_, rfl⟩
      rw [hlo, hhi]
      have g1 : lo ≤ hi := by lia
      have g2 : hi ≤ n := by lia
      have g3 : ∀ i, i < lo → P i = true := fun i hi => mono i _ (by lia) (by lia) (b5 (by lia))
      have g4 : ∀ i, hi ≤ i → i < n → P i = false := fun i hi hn => 
        Bool.eq_false_iff.mpr fun q => by rw [mono (hint - lastofs) i (by lia) hn q] at b4; exact Bool.noConfusion b4
      refine wpS_bind (wpS_mono (wpS_forRange (I := fun x c st' => st = st' ∧ ∃ lo hi, c = (none, lo, hi) ∧ lo ≤ hi ∧ hi ≤ n ∧ hi - lo ≤ n - x ∧ (∀ i, i < lo → P i = true) ∧ (∀ i, hi ≤ i → i < n → P i = false))
        (Q := fun c st' => st = st' ∧ ∃ k, c = (none, k, k) ∧ k ≤ n ∧ (∀ i, i < k → P i = true) ∧ (∀ i, k ≤ i → i < n → P i = false)) ?bstep ?bfin ⟨rfl, lo, hi, rfl, g1, g2, by lia, g3, g4⟩) ?bpost)
      case bpost =>
        rintro c st' ⟨rfl, k, rfl, k1, k2, k3⟩
        exact wpS_pure (h k k1 k2 k3)
      case bfin =>
        rintro c st' ⟨rfl, l, r, rfl, a1, a2, a3, a4, a5⟩
        have e : l = r := by lia
        subst e
        exact ⟨rfl, l, rfl, a2, a4, a5⟩
      case bstep =>
        rintro x c st' _ hx ⟨rfl, l, r, rfl, a1, a2, a3, a4, a5⟩
        dsimp only
        by_cases hge : l ≥ r
        · rw [if_pos hge]
          have e : l = r := by lia
          subst e
          exact wpS_pure ⟨rfl, l, rfl, a2, a4, a5⟩
        · rw [if_neg hge]
          with_unfolding_all refine wpS_bind (bey (l + (r - l) / 2) (by lia) _ ?_)
          cases hm : P (l + (r - l) / 2) with
          | true => exact wpS_pure ⟨rfl, _, r, rfl, by lia, by lia, by lia, fun i hi => mono i _ (by lia) (by lia) hm, a5⟩
          | false => exact wpS_pure ⟨rfl, l, _, rfl, by lia, by lia, by lia, a4, fun i hi hn => Bool.eq_false_iff.mpr fun q => by rw [mono _ i hi hn q] at hm; exact Bool.noConfusion hm⟩
end
end Mine
end

section
open PySem PySem.W PyProof.Rows PySem.Spec PySem.Calls
set_option Elab.async false
namespace Mine
noncomputable def Le (x y : Keyed) : Prop := kn x ≤ kn y
noncomputable def Ge (x y : Keyed) : Prop := kn y ≤ kn x
/-- what a merge keeps: what is told, and the two rests -/
structure MInv (R : Keyed → Keyed → Prop) (tot O A B : List Keyed) : Prop where
  pa : (O ++ A).Pairwise R
  pb : (O ++ B).Pairwise R
  pm : (O ++ A ++ B).Perm tot
theorem MInv.swap {R : Keyed → Keyed → Prop} {tot O A B : List Keyed} (h : MInv R tot O A B) : MInv R tot O B A :=
  ⟨h.pb, h.pa, (by rw [List.append_assoc]; exact (List.Perm.append_left O List.perm_append_comm).trans (by rw [← List.append_assoc]; exact h.pm))⟩
theorem MInv.takeA {R : Keyed → Keyed → Prop} {tot O A₁ A₂ A B : List Keyed} (h : MInv R tot O A B) (e : A = A₁ ++ A₂) (hr : ∀ x ∈ A₁, ∀ y ∈ B, R x y) : MInv R tot (O ++ A₁) A₂ B := by
  subst e
  refine ⟨by rw [List.append_assoc]; exact h.pa, ?_, ?_⟩
  · have h1 := h.pa
    rw [← List.append_assoc] at h1
    have h2 := (List.pairwise_append.mp h1).1
    refine List.pairwise_append.mpr ⟨h2, (List.pairwise_append.mp h.pb).2.1, fun x hx y hy => ?_⟩
    rcases List.mem_append.mp hx with hx | hx
    · exact (List.pairwise_append.mp h.pb).2.2 x hx y hy
    · exact hr x hx y hy
  · have := h.pm
    rw [← List.append_assoc] at this
    exact this
theorem MInv.takeB {R : Keyed → Keyed → Prop} {tot O B₁ B₂ A B : List Keyed} (h : MInv R tot O A B) (e : B = B₁ ++ B₂) (hr : ∀ x ∈ B₁, ∀ y ∈ A, R x y) : MInv R tot (O ++ B₁) A B₂ :=
  (h.swap.takeA e hr).swap
theorem drop_ix {a : Array Keyed} {i : Nat} (h : i < a.size) : a.toList.drop i = [a[i]] ++ a.toList.drop (i + 1) := by
  rw [List.drop_eq_getElem_cons (by simpa using h), Array.getElem_toList]; rfl
theorem drop_run (a : Array Keyed) (i k : Nat) : a.toList.drop i = (a.extract i (i + k)).toList ++ a.toList.drop (i + k) := by
  rw [Array.toList_extract, List.extract_eq_take_drop, Nat.add_sub_cancel_left, ← List.drop_drop, List.take_append_drop]
theorem mem_drop_ix {a : Array Keyed} {i : Nat} {x : Keyed} (h : x ∈ a.toList.drop i) : ∃ j, ∃ hj : j < a.size, i ≤ j ∧ x = a[j] := by
  obtain ⟨n, hn, e⟩ := List.getElem_of_mem h
  rw [List.length_drop, Array.length_toList] at hn
  rw [List.getElem_drop] at e
  exact ⟨i + n, by lia, by lia, by rw [← e, Array.getElem_toList]⟩
theorem mem_run_ix {a : Array Keyed} {i k : Nat} {x : Keyed} (h : x ∈ (a.extract i (i + k)).toList) : ∃ j, ∃ hj : j < a.size, i ≤ j ∧ j < i + k ∧ x = a[j] := by
  rw [Array.toList_extract, List.extract_eq_take_drop, Nat.add_sub_cancel_left] at h
  obtain ⟨n, hn, e⟩ := List.getElem_of_mem h
  rw [List.length_take, List.length_drop, Array.length_toList] at hn
  rw [List.getElem_take, List.getElem_drop] at e
  exact ⟨i + n, by lia, by lia, by lia, by rw [← e, Array.getElem_toList]⟩
theorem ix_le {a : Array Keyed} (h : a.toList.Pairwise Le) {i j : Nat} (hij : i ≤ j) (hj : j < a.size) : kn (a[i]'(by lia)) ≤ kn a[j] := by
  by_cases e : i = j
  · subst e; exact Int.le_refl _
  · have := List.pairwise_iff_getElem.mp h i j (by rw [Array.length_toList]; lia) (by rw [Array.length_toList]; lia) (by lia)
    rw [Array.getElem_toList, Array.getElem_toList] at this
    exact this
structure Like (st st' : SortSt) : Prop where
  kind : PyProof.Rows.kindOf st' = PyProof.Rows.kindOf st
  arr : arrOf st' = arrOf st
  pend : pendingOf st' = pendingOf st
  failed : failedOf st' = failedOf st
theorem Like.refl (st : SortSt) : Like st st := ⟨rfl, rfl, rfl, rfl⟩
noncomputable def Fin (tot : List Keyed) (res : Array Keyed) : Prop := res.toList.Perm tot ∧ res.toList.Pairwise Le
theorem fin_done {tot : List Keyed} {out a b : Array Keyed} {ia ib : Nat} (h : MInv Le tot out.toList (a.toList.drop ia) (b.toList.drop ib)) (hz : ia = a.size ∨ ib = b.size) :
    Fin tot (out ++ a.extract ia a.size ++ b.extract ib b.size) := by
  have e1 : (out ++ a.extract ia a.size ++ b.extract ib b.size).toList = out.toList ++ a.toList.drop ia ++ b.toList.drop ib := by
    have ea : (a.toList.drop ia).length ≤ a.size - ia := by rw [List.length_drop, Array.length_toList]; lia
    have eb : (b.toList.drop ib).length ≤ b.size - ib := by rw [List.length_drop, Array.length_toList]; lia
    simp only [Array.toList_append, Array.toList_extract, List.extract_eq_take_drop]
    rw [List.take_of_length_le ea, List.take_of_length_le eb]
  refine ⟨by rw [e1]; exact h.pm, ?_⟩
  rw [e1]
  rcases hz with hz | hz
  · have : a.toList.drop ia = [] := List.drop_eq_nil_of_le (by rw [Array.length_toList]; lia)
    rw [this, List.append_nil]; exact h.pb
  · have : b.toList.drop ib = [] := List.drop_eq_nil_of_le (by rw [Array.length_toList]; lia)
    rw [this, List.append_nil]; exact h.pa
theorem fin_last {tot : List Keyed} {out a b : Array Keyed} {ia ib : Nat} (h : MInv Le tot out.toList (a.toList.drop ia) (b.toList.drop ib)) (ha : ia + 1 = a.size) (hl : ∀ y ∈ b.toList, Le y (a[ia]'(by lia))) :
    Fin tot (out ++ b.extract ib b.size ++ a.extract ia a.size) := by
  have ea : (a.toList.drop ia).length ≤ a.size - ia := by rw [List.length_drop, Array.length_toList]; lia
  have eb : (b.toList.drop ib).length ≤ b.size - ib := by rw [List.length_drop, Array.length_toList]; lia
  have e1 : (out ++ b.extract ib b.size ++ a.extract ia a.size).toList = out.toList ++ b.toList.drop ib ++ a.toList.drop ia := by
    simp only [Array.toList_append, Array.toList_extract, List.extract_eq_take_drop]
    rw [List.take_of_length_le ea, List.take_of_length_le eb]
  refine ⟨by rw [e1]; exact h.swap.pm, ?_⟩
  rw [e1]
  refine List.pairwise_append.mpr ⟨h.pb, (List.pairwise_append.mp h.pa).2.1, fun x hx y hy => ?_⟩
  rcases List.mem_append.mp hx with hx | hx
  · exact (List.pairwise_append.mp h.pa).2.2 x hx y hy
  · obtain ⟨j, hj, h1, rfl⟩ := mem_drop_ix hy
    have : j = ia := by lia
    subst this
    exact hl x (List.mem_of_mem_drop hx)
section
variable {prog : Program} {w : World} {A : Around} {E : Value → Shared → Prop} {s : Shared}
/-- what stands at the head of each turn -/
structure LoInv (tot : List Keyed) (a b out : Array Keyed) (ia ib : Nat) : Prop where
  inv : MInv Le tot out.toList (a.toList.drop ia) (b.toList.drop ib)
  ha : ia + 1 < a.size
  hb : ib < b.size
theorem LoInv.pushB {tot : List Keyed} {a b out : Array Keyed} {ia ib : Nat} (h : MInv Le tot out.toList (a.toList.drop ia) (b.toList.drop ib)) (hb : ib < b.size) (hr : ∀ j, (hj : j < a.size) → ia ≤ j → kn b[ib] ≤ kn a[j]) :
    MInv Le tot (out.push b[ib]).toList (a.toList.drop ia) (b.toList.drop (ib + 1)) := by
  rw [Array.toList_push]
  refine h.takeB (drop_ix hb) fun x hx y hy => ?_
  rw [List.mem_singleton.mp hx]
  obtain ⟨j, hj, h1, rfl⟩ := mem_drop_ix hy
  exact hr j hj h1
theorem LoInv.pushA {tot : List Keyed} {a b out : Array Keyed} {ia ib : Nat} (h : MInv Le tot out.toList (a.toList.drop ia) (b.toList.drop ib)) (ha : ia < a.size) (hr : ∀ j, (hj : j < b.size) → ib ≤ j → kn a[ia] ≤ kn b[j]) :
    MInv Le tot (out.push a[ia]).toList (a.toList.drop (ia + 1)) (b.toList.drop ib) := by
  rw [Array.toList_push]
  refine h.takeA (drop_ix ha) fun x hx y hy => ?_
  rw [List.mem_singleton.mp hx]
  obtain ⟨j, hj, h1, rfl⟩ := mem_drop_ix hy
  exact hr j hj h1
theorem LoInv.runA {tot : List Keyed} {a b out : Array Keyed} {ia ib k : Nat} (h : MInv Le tot out.toList (a.toList.drop ia) (b.toList.drop ib)) (hr : ∀ i j, (hi : i < a.size) → ia ≤ i → i < ia + k → (hj : j < b.size) → ib ≤ j → kn a[i] ≤ kn b[j]) :
    MInv Le tot (out ++ a.extract ia (ia + k)).toList (a.toList.drop (ia + k)) (b.toList.drop ib) := by
  rw [Array.toList_append]
  refine h.takeA (drop_run a ia k) fun x hx y hy => ?_
  obtain ⟨i, hi, h1, h2, rfl⟩ := mem_run_ix hx
  obtain ⟨j, hj, h3, rfl⟩ := mem_drop_ix hy
  exact hr i j hi h1 h2 hj h3
theorem LoInv.runB {tot : List Keyed} {a b out : Array Keyed} {ia ib k : Nat} (h : MInv Le tot out.toList (a.toList.drop ia) (b.toList.drop ib)) (hr : ∀ i j, (hi : i < b.size) → ib ≤ i → i < ib + k → (hj : j < a.size) → ia ≤ j → kn b[i] ≤ kn a[j]) :
    MInv Le tot (out ++ b.extract ib (ib + k)).toList (a.toList.drop ia) (b.toList.drop (ib + k)) :=
  (LoInv.runA h.swap hr).swap
end
end Mine
end

section
open PySem PySem.W PyProof.Rows PySem.Spec PySem.Calls
set_option Elab.async false
namespace Mine
theorem K_kn {a : Array Keyed} {i : Nat} (h : i < a.size) : K a i = kn a[i] := K_eq h
theorem K_le {a : Array Keyed} (h : a.toList.Pairwise Le) {i j : Nat} (hij : i ≤ j) (hj : j < a.size) : K a i ≤ K a j := by
  rw [K_kn (by lia), K_kn hj]; exact ix_le h hij hj
section
variable {prog : Program} {w : World} {A : Around} {E : Value → Shared → Prop} {s : Shared}
theorem wpS_ite {M : Model} {α : Type} {c : Prop} [Decidable c] {x y : StateT SortSt Sem α} {Q : α → SortSt → Prop} {st : SortSt} (h1 : c → wpS M A E s x Q st) (h2 : ¬ c → wpS M A E s y Q st) : wpS M A E s (if c then x else y) Q st := by
  by_cases q : c
  · rw [if_pos q]; exact h1 q
  · rw [if_neg q]; exact h2 q
theorem wpS_allJ {M : Model} {α γ : Type} {c : γ → Prop} {inst : ∀ z, Decidable (c z)} {X Y : γ → StateT SortSt Sem α} {Q : α → SortSt → Prop} {st : SortSt} (f : γ → γ) (hf : ∀ z, X z = Y (f z)) (h : ∀ z, wpS M A E s (Y z) Q st) :
    ∀ z, wpS M A E s (if c z then X z else Y z) Q st := fun z => wpS_ite (fun _ => (hf z).symm ▸ h (f z)) (fun _ => h z)
theorem wpS_allK {M : Model} {α β γ : Type} {c : Prop} {inst : Decidable c} {u₀ : β} {v₀ : γ} {X Y : β → γ → StateT SortSt Sem α} {Q : α → SortSt → Prop} {st : SortSt} (H : β → γ → Prop) (h0 : ¬ c → H u₀ v₀)
    (hx : (∀ u v, H u v → wpS M A E s (Y u v) Q st) → c → wpS M A E s (X u₀ v₀) Q st) (hy : ∀ u v, H u v → wpS M A E s (Y u v) Q st) : ∀ u, u₀ = u → ∀ v, v₀ = v → wpS M A E s (if c then X u v else Y u v) Q st := by
  rintro _ rfl _ rfl
  exact wpS_ite (fun q => hx hy q) (fun q => hy _ _ (h0 q))
/-- a run's end found from the right, or from the left -/
theorem wpS_gallopR {st : SortSt} {key : Keyed} {arr : Array Keyed} {base n hint : Nat} {Q : Option Nat → SortSt → Prop}
    (hk : PyProof.Rows.kindOf st = oneType') (hkey : KI key) (ha : ∀ p ∈ arr.toList, KI p) (hbn : base + n ≤ arr.size) (hh : hint < n) (sa : ∀ i j, base ≤ i → i ≤ j → j < base + n → K arr i ≤ K arr j)
    (h : ∀ k, k ≤ n → (∀ i, base ≤ i → i < base + k → K arr i ≤ kn key) → (∀ i, base + k ≤ i → i < base + n → kn key < K arr i) → Q (some k) st) :
    wpS (model prog w) A E s (gallop' false key arr base n hint) Q st := by
  refine wpS_gallop (P := fun i => !decide (kn key < K arr (base + i))) hk hkey ha hbn hh (fun i hi => by rw [if_neg (by decide), K_kn (by lia)]) (fun i j hij hj hp => ?_) (fun k hk1 hk2 hk3 => h k hk1 (fun i h1 h2 => ?_) (fun i h1 h2 => ?_))
  · have := sa (base + i) (base + j) (by lia) (by lia) (by lia)
    simp only [Bool.not_eq_true', decide_eq_false_iff_not] at hp ⊢
    lia
  · have := hk2 (i - base) (by lia)
    rw [show base + (i - base) = i by lia] at this
    simp only [Bool.not_eq_true', decide_eq_false_iff_not] at this
    lia
  · have := hk3 (i - base) (by lia) (by lia)
    rw [show base + (i - base) = i by lia] at this
    simpa using this
theorem wpS_gallopL {st : SortSt} {key : Keyed} {arr : Array Keyed} {base n hint : Nat} {Q : Option Nat → SortSt → Prop}
    (hk : PyProof.Rows.kindOf st = oneType') (hkey : KI key) (ha : ∀ p ∈ arr.toList, KI p) (hbn : base + n ≤ arr.size) (hh : hint < n) (sa : ∀ i j, base ≤ i → i ≤ j → j < base + n → K arr i ≤ K arr j)
    (h : ∀ k, k ≤ n → (∀ i, base ≤ i → i < base + k → K arr i < kn key) → (∀ i, base + k ≤ i → i < base + n → kn key ≤ K arr i) → Q (some k) st) :
    wpS (model prog w) A E s (gallop' true key arr base n hint) Q st := by
  refine wpS_gallop (P := fun i => decide (K arr (base + i) < kn key)) hk hkey ha hbn hh (fun i hi => by rw [if_pos rfl, K_kn (by lia)]) (fun i j hij hj hp => ?_) (fun k hk1 hk2 hk3 => h k hk1 (fun i h1 h2 => ?_) (fun i h1 h2 => ?_))
  · have := sa (base + i) (base + j) (by lia) (by lia) (by lia)
    simp only [decide_eq_true_eq] at hp ⊢
    lia
  · have := hk2 (i - base) (by lia)
    rw [show base + (i - base) = i by lia] at this
    simpa using this
  · have := hk3 (i - base) (by lia) (by lia)
    rw [show base + (i - base) = i by lia] at this
    simpa using this
theorem wpS_mergeLo {st : SortSt} {a b : Array Keyed} {Q : Array Keyed → SortSt → Prop} (hk : PyProof.Rows.kindOf st = oneType') (hak : ∀ p ∈ a.toList, KI p) (hbk : ∀ p ∈ b.toList, KI p) (ha : 0 < a.size) (hb : 0 < b.size)
    (sa : a.toList.Pairwise Le) (sb : b.toList.Pairwise Le) (h1 : kn b[0] ≤ kn a[0]) (h2 : ∀ y ∈ b.toList, Le y (a[a.size - 1]'(by lia)))
    (h : ∀ out st', Like st st' → Fin (a.toList ++ b.toList) out → Q out st') : wpS (model prog w) A E s (mergeLo' a b) Q st := by
  have hka : ∀ i, (hi : i < a.size) → KI a[i] := fun i hi => hak _ (by simp)
  have hkb : ∀ i, (hi : i < b.size) → KI b[i] := fun i hi => hbk _ (by simp)
  have last : ∀ ia, (e : ia + 1 = a.size) → ∀ y ∈ b.toList, Le y (a[ia]'(by lia)) := fun ia e y hy => by
    have := h2 y hy
    have e2 : a.size - 1 = ia := by lia
    simp only [e2] at this
    exact this
  have i0 : MInv Le (a.toList ++ b.toList) (#[] : Array Keyed).toList (a.toList.drop 0) (b.toList.drop 0) := ⟨by simpa using sa, by simpa using sb, by simp⟩
  have i1 := LoInv.pushB i0 hb (fun j hj _ => Int.le_trans h1 (ix_le sa (Nat.zero_le j) hj))
  with_unfolding_all refine wpS_bind (wpS_lift (wpAny_rule ⟨rfl, ?_⟩))
  with_unfolding_all refine wpS_bind (wpS_elem hb ?_)
  (try dsimp -zeta only)
  by_cases c1 : (0 + 1 == b.size) = true
  · rw [if_pos c1]
    exact wpS_pure (h _ _ (Like.refl _) (fin_done i1 (.inr (by simpa using c1))))
  rw [if_neg c1]
  by_cases c2 : (0 + 1 == a.size) = true
  · rw [if_pos c2]
    have c2' : 0 + 1 = a.size := by simpa using c2
    exact wpS_pure (h _ _ (Like.refl _) (fin_last i1 c2' (last 0 c2')))
  rw [if_neg c2]
  have c1' : ¬ (0 + 1 = b.size) := by simpa using c1
  have c2' : ¬ (0 + 1 = a.size) := by simpa using c2
  refine wpS_bind (wpS_get ?_)
  refine wpS_bind (wpS_mono (wpS_forRange
    (I := fun x c st' => Like st st' ∧ ∃ out ia ib mg, c = (none, out, ia, ib, mg) ∧ LoInv (a.toList ++ b.toList) a b out ia ib ∧ x + 1 ≤ ia + ib)
    (Q := fun c st' => Like st st' ∧ ∃ res r, c = (some res, r) ∧ Fin (a.toList ++ b.toList) res) ?step ?fin ⟨Like.refl _, _, 0, 1, _, rfl, ⟨i1, by lia, by lia⟩, by lia⟩) ?post)
  case fin =>
    rintro c st' ⟨_, out, ia, ib, mg, rfl, hI, hx⟩
    have := hI.ha
    have := hI.hb
    lia
  case post =>
    rintro c st' ⟨hL, res, r, rfl, hF⟩
    exact wpS_pure (h _ _ hL hF)
  case step =>
    rintro x c st₁ _ hx ⟨hL, out, ia, ib, mg, rfl, hI, hxi⟩
    (try dsimp -zeta only)
    refine wpS_bind (wpS_mono (wpS_forRange
      (I := fun x c st' => Like st st' ∧ ∃ out' ia' ib' ac bc, c = (none, out', ia', ib', ac, bc) ∧ LoInv (a.toList ++ b.toList) a b out' ia' ib' ∧ ia + ib + x ≤ ia' + ib')
      (Q := fun c st' => Like st st' ∧ ((∃ res r, c = (some res, r) ∧ Fin (a.toList ++ b.toList) res) ∨ ∃ out' ia' ib' ac bc, c = (none, out', ia', ib', ac, bc) ∧ LoInv (a.toList ++ b.toList) a b out' ia' ib' ∧ ia + ib + 1 ≤ ia' + ib')) ?step1 ?fin1 ⟨hL, out, ia, ib, 0, 0, rfl, hI, by lia⟩) ?post1)
    case fin1 =>
      rintro c st' ⟨hL', out', ia', ib', ac, bc, rfl, hI', hx'⟩
      exact ⟨hL', .inr ⟨_, _, _, _, _, rfl, hI', by lia⟩⟩
    case step1 =>
      rintro x₁ c st' _ hx1 ⟨hL', out', ia', ib', ac, bc, rfl, hI', hx'⟩
      have ha' := hI'.ha
      have hb' := hI'.hb
      (try dsimp -zeta only)
      with_unfolding_all refine wpS_bind (wpS_elem hb' ?_)
      with_unfolding_all refine wpS_bind (wpS_elem (show ia' < a.size by lia) ?_)
      with_unfolding_all refine wpS_bind (wpS_lt (hL'.kind.trans hk) (hkb _ hb') (hka ia' (by lia)) ?_)
      (try dsimp -zeta only)
      by_cases hlt : kn b[ib'] < kn (a[ia']'(by lia))
      · rw [if_pos (decide_eq_true hlt)]
        with_unfolding_all refine wpS_bind (wpS_elem hb' ?_)
        have i2 := LoInv.pushB hI'.inv hb' (fun j hj hij => Int.le_trans (Int.le_of_lt hlt) (ix_le sa hij hj))
        by_cases c3 : (ib' + 1 == b.size) = true
        · rw [if_pos c3]
          exact wpS_pure ⟨hL', .inl ⟨_, _, rfl, fin_done i2 (.inr (by simpa using c3))⟩⟩
        rw [if_neg c3]
        have c3' : ¬ (ib' + 1 = b.size) := by simpa using c3
        have hI2 : LoInv (a.toList ++ b.toList) a b _ ia' (ib' + 1) := ⟨i2, by lia, by lia⟩
        by_cases c4 : bc + 1 ≥ mg
        · rw [if_pos c4]
          exact wpS_pure ⟨hL', .inr ⟨_, _, _, _, _, rfl, hI2, by lia⟩⟩
        · rw [if_neg c4]
          exact wpS_pure ⟨hL', _, _, _, _, _, rfl, hI2, by lia⟩
      · rw [if_neg (by simpa using hlt)]
        with_unfolding_all refine wpS_bind (wpS_elem (show ia' < a.size by lia) ?_)
        have i2 := LoInv.pushA hI'.inv (show ia' < a.size by lia) (fun j hj hij => Int.le_trans (Int.not_lt.mp hlt) (ix_le sb hij hj))
        by_cases c3 : (ia' + 1 + 1 == a.size) = true
        · rw [if_pos c3]
          have c3' : ia' + 1 + 1 = a.size := by simpa using c3
          exact wpS_pure ⟨hL', .inl ⟨_, _, rfl, fin_last i2 c3' (last _ c3')⟩⟩
        rw [if_neg c3]
        have c3' : ¬ (ia' + 1 + 1 = a.size) := by simpa using c3
        have hI2 : LoInv (a.toList ++ b.toList) a b _ (ia' + 1) ib' := ⟨i2, by lia, by lia⟩
        by_cases c4 : ac + 1 ≥ mg
        · rw [if_pos c4]
          exact wpS_pure ⟨hL', .inr ⟨_, _, _, _, _, rfl, hI2, by lia⟩⟩
        · rw [if_neg c4]
          exact wpS_pure ⟨hL', _, _, _, _, _, rfl, hI2, by lia⟩
    case post1 =>
      rintro c st₂ ⟨hL2, ⟨res, r, rfl, hF⟩ | ⟨out', ia', ib', ac, bc, rfl, hI', hx'⟩⟩
      · exact wpS_pure ⟨hL2, _, _, rfl, hF⟩
      (try dsimp -zeta only)
      with_unfolding_all refine wpS_bind (wpS_lift (wpAny_rule ⟨rfl, ?_⟩))
      refine wpS_bind (wpS_mono (wpS_forRange
        (I := fun _ c st' => Like st st' ∧ ∃ o₃ ja jb mg₃ ac bc, c = (none, o₃, ja, jb, mg₃, ac, bc) ∧ LoInv (a.toList ++ b.toList) a b o₃ ja jb ∧ ia' + ib' ≤ ja + jb)
        (Q := fun c st' => Like st st' ∧ ((∃ res r, c = (some res, r) ∧ Fin (a.toList ++ b.toList) res) ∨ ∃ o₃ ja jb mg₃ ac bc, c = (none, o₃, ja, jb, mg₃, ac, bc) ∧ LoInv (a.toList ++ b.toList) a b o₃ ja jb ∧ ia' + ib' ≤ ja + jb)) ?step2 ?fin2 ⟨hL2, _, _, _, _, _, _, rfl, hI', Nat.le_refl _⟩) ?post2)
      case fin2 =>
        rintro c st' ⟨hL', o₃, ja, jb, mg₃, ac, bc, rfl, hI3, hx3⟩
        exact ⟨hL', .inr ⟨_, _, _, _, _, _, rfl, hI3, hx3⟩⟩
      case post2 =>
        rintro c st₃ ⟨hL3, ⟨res, r, rfl, hF⟩ | ⟨o₃, ja, jb, mg₃, ac, bc, rfl, hI3, hx3⟩⟩
        · exact wpS_pure ⟨hL3, _, _, rfl, hF⟩
        (try dsimp -zeta only)
        with_unfolding_all refine wpS_bind (wpS_modify ?_)
        have hx9 : x + 1 + 1 ≤ ja + jb := by lia
        exact wpS_pure ⟨⟨hL3.kind, hL3.arr, hL3.pend, hL3.failed⟩, o₃, ja, jb, _, rfl, hI3, hx9⟩
      case step2 =>
        rintro x₂ c st₃ _ _ ⟨hL3, o₃, ja, jb, mg₃, ac, bc, rfl, hI3, hx3⟩
        have ha3 := hI3.ha
        have hb3 := hI3.hb
        (try dsimp -zeta only)
        revert mg₃
        with_unfolding_all refine wpS_allJ (fun z => z - 1) (fun _ => rfl) ?_
        intro mg₃
        have hL4 : ∀ g, Like st (SortSt.mk' (PyProof.Rows.kindOf st₃) (arrOf st₃) (pendingOf st₃) g (failedOf st₃)) := fun g => ⟨hL3.kind, hL3.arr, hL3.pend, hL3.failed⟩
        with_unfolding_all refine wpS_bind (wpS_modify ?_)
        with_unfolding_all refine wpS_bind (wpS_elem hb3 ?_)
        with_unfolding_all refine wpS_bind (wpS_gallopR (base := ja) (n := a.size - ja) (hint := 0) (hL3.kind.trans hk) (hkb _ hb3) hak (by lia) (by lia) (fun i j h1 h2 h3 => K_le sa h2 (by lia)) ?_)
        intro k hk1 hk2 hk3
        (try dsimp only at hk2 hk3)
        have i3 := LoInv.runA (k := k) hI3.inv (fun i j hi h1 h2 hj h3 => by rw [← K_kn hi]; exact Int.le_trans (hk2 i h1 h2) (ix_le sb h3 hj))
        (try dsimp -zeta only)
        generalize ho : o₃ = zo
        revert zo
        generalize hj : ja = zj
        revert zj
        with_unfolding_all refine wpS_allK (fun ia4 out4 => MInv Le (a.toList ++ b.toList) out4.toList (a.toList.drop ia4) (b.toList.drop jb) ∧ ia4 + 1 < a.size ∧ (∀ i, ia4 ≤ i → i < a.size → kn (b[jb]'hb3) < K a i) ∧ ja ≤ ia4) ?h0 ?hx ?hy
        case h0 =>
          intro c6
          exact ⟨hI3.inv, ha3, fun i h1 h2 => hk3 i (by lia) (by lia), Nat.le_refl _⟩
        case hx =>
          intro cont c6
          refine wpS_ite (fun c7 => ?_) (fun c7 => wpS_ite (fun c8 => ?_) (fun c8 => ?_))
          · have c7' : ja + k + 1 = a.size := by simpa using c7
            exact wpS_pure ⟨hL4 _, .inl ⟨_, _, rfl, fin_last i3 c7' (last _ c7')⟩⟩
          · exact wpS_pure ⟨hL4 _, .inl ⟨_, _, rfl, fin_done i3 (.inl (by simpa using c8))⟩⟩
          · have c7' : ¬ (ja + k + 1 = a.size) := by simpa using c7
            have c8' : ¬ (ja + k = a.size) := by simpa using c8
            exact cont _ _ ⟨i3, by lia, fun i h1 h2 => hk3 i h1 (by lia), Nat.le_add_right _ _⟩
        case hy =>
          clear i3 hk1 hk2 hk3
          rintro ia4 out4 ⟨i3, hia, hk4, hja⟩
          (try dsimp -zeta only)
          with_unfolding_all refine wpS_bind (wpS_elem hb3 ?_)
          have i5 := LoInv.pushB i3 hb3 (fun j hj hij => by rw [← K_kn hj]; exact Int.le_of_lt (hk4 j hij hj))
          refine wpS_ite (fun c9 => ?_) (fun c9 => ?_)
          · exact wpS_pure ⟨hL4 _, .inl ⟨_, _, rfl, fin_done i5 (.inr (by simpa using c9))⟩⟩
          have c9' : ¬ (jb + 1 = b.size) := by simpa using c9
          have hia4 : ia4 < a.size := by lia
          with_unfolding_all refine wpS_bind (wpS_elem hia4 ?_)
          with_unfolding_all refine wpS_bind (wpS_gallopL (base := jb + 1) (n := b.size - (jb + 1)) (hint := 0) (hL3.kind.trans hk) (hka ia4 hia4) hbk (by lia) (by lia) (fun i j h1 h2 h3 => K_le sb h2 (by lia)) ?_)
          intro k' hk1' hk2' hk3'
          have i6 := LoInv.runB (k := k') i5 (fun i j hi h1 h2 hj h3 => by rw [← K_kn hi]; exact Int.le_trans (Int.le_of_lt (hk2' i h1 h2)) (ix_le sa h3 hj))
          (try dsimp -zeta only)
          generalize out4.push b[jb] = out5 at i5 i6 ⊢
          generalize ho : out5 = zo
          revert zo
          generalize hj : jb + 1 = zj
          revert zj
          with_unfolding_all refine wpS_allK (fun jb6 out6 => MInv Le (a.toList ++ b.toList) out6.toList (a.toList.drop ia4) (b.toList.drop jb6) ∧ jb6 < b.size ∧ (∀ i, jb6 ≤ i → i < b.size → kn (a[ia4]'hia4) ≤ K b i) ∧ jb ≤ jb6) ?h0' ?hx' ?hy'
          case h0' =>
            intro d1
            exact ⟨i5, by lia, fun i h1 h2 => hk3' i (by lia) (by lia), Nat.le_add_right _ _⟩
          case hx' =>
            intro cont d1
            refine wpS_ite (fun d2 => ?_) (fun d2 => ?_)
            · exact wpS_pure ⟨hL4 _, .inl ⟨_, _, rfl, fin_done i6 (.inr (by simpa using d2))⟩⟩
            · have d2' : ¬ (jb + 1 + k' = b.size) := by simpa using d2
              exact cont _ _ ⟨i6, by lia, fun i h1 h2 => hk3' i h1 (by lia), by lia⟩
          case hy' =>
            clear i3 i5 i6 hk1' hk2' hk3'
            rintro jb6 out6 ⟨i6, hjb, hk5, hjj⟩
            (try dsimp -zeta only)
            with_unfolding_all refine wpS_bind (wpS_elem hia4 ?_)
            have i8 := LoInv.pushA i6 hia4 (fun j hj hij => by rw [← K_kn hj]; exact hk5 j hij hj)
            refine wpS_ite (fun e1 => ?_) (fun e1 => ?_)
            · have e1' : ia4 + 1 + 1 = a.size := by simpa using e1
              exact wpS_pure ⟨hL4 _, .inl ⟨_, _, rfl, fin_last i8 e1' (last _ e1')⟩⟩
            have e1' : ¬ (ia4 + 1 + 1 = a.size) := by simpa using e1
            have hI8 : LoInv (a.toList ++ b.toList) a b _ (ia4 + 1) jb6 := ⟨i8, by lia, hjb⟩
            have hx8 : ia' + ib' ≤ ia4 + 1 + jb6 := by lia
            refine wpS_ite (fun e2 => ?_) (fun e2 => ?_)
            · exact wpS_pure ⟨hL4 _, .inr ⟨_, _, _, _, _, _, rfl, hI8, hx8⟩⟩
            · exact wpS_pure ⟨hL4 _, _, _, _, _, _, _, rfl, hI8, hx8⟩
end
end Mine
end

section
open PySem PySem.W PyProof.Rows PySem.Spec PySem.Calls
set_option Elab.async false
namespace Mine
noncomputable def rtk (a : Array Keyed) (n : Nat) : List Keyed := (a.toList.take n).reverse
theorem rtk_ix {a : Array Keyed} {n : Nat} (h : n < a.size) : rtk a (n + 1) = [a[n]] ++ rtk a n := by
  unfold rtk
  rw [List.take_add_one, List.getElem?_eq_getElem (by simpa using h), Option.toList_some, List.reverse_append, Array.getElem_toList]; rfl
theorem rtk_run {a : Array Keyed} {m n : Nat} (h : m ≤ n) : rtk a n = (a.extract m n).reverse.toList ++ rtk a m := by
  unfold rtk
  rw [Array.toList_reverse, Array.toList_extract, List.extract_eq_take_drop, ← List.reverse_append]
  congr 1
  have : n = m + (n - m) := by lia
  rw [this, List.take_add, Nat.add_sub_cancel_left]
theorem mem_rtk {a : Array Keyed} {n : Nat} {x : Keyed} (h : x ∈ rtk a n) : ∃ j, ∃ hj : j < a.size, j < n ∧ x = a[j] := by
  unfold rtk at h
  rw [List.mem_reverse] at h
  obtain ⟨j, hj, e⟩ := List.getElem_of_mem h
  rw [List.length_take, Array.length_toList] at hj
  rw [List.getElem_take] at e
  exact ⟨j, by lia, by lia, by rw [← e, Array.getElem_toList]⟩
theorem mem_rrun {a : Array Keyed} {m n : Nat} {x : Keyed} (h : x ∈ (a.extract m n).reverse.toList) : ∃ j, ∃ hj : j < a.size, m ≤ j ∧ j < n ∧ x = a[j] := by
  rw [Array.toList_reverse, List.mem_reverse, Array.toList_extract, List.extract_eq_take_drop] at h
  obtain ⟨j, hj, e⟩ := List.getElem_of_mem h
  rw [List.length_take, List.length_drop, Array.length_toList] at hj
  rw [List.getElem_take, List.getElem_drop] at e
  exact ⟨m + j, by lia, by lia, by lia, by rw [← e, Array.getElem_toList]⟩
theorem pair_flip {l : List Keyed} (h : l.Pairwise Ge) : l.reverse.Pairwise Le := by
  rw [List.pairwise_reverse]; exact h
theorem take_rtk (a : Array Keyed) (n : Nat) : (a.extract 0 n).toList = (rtk a n).reverse := by
  unfold rtk
  rw [List.reverse_reverse, Array.toList_extract, List.extract_eq_take_drop]; simp
theorem fin_doneH {tot : List Keyed} {out a b : Array Keyed} {na nb : Nat} (h : MInv Ge tot out.toList (rtk a na) (rtk b nb)) (hz : na = 0 ∨ nb = 0) :
    Fin tot (a.extract 0 na ++ b.extract 0 nb ++ out.reverse) := by
  have e1 : (a.extract 0 na ++ b.extract 0 nb ++ out.reverse).toList = (out.toList ++ (rtk b nb ++ rtk a na)).reverse := by
    simp only [Array.toList_append, take_rtk, Array.toList_reverse, List.reverse_append]
  refine ⟨?_, ?_⟩
  · rw [e1]
    refine (List.reverse_perm _).trans ?_
    rw [← List.append_assoc]
    exact h.swap.pm
  · rw [e1]
    refine pair_flip ?_
    rcases hz with hz | hz
    · subst hz
      have : rtk a 0 = [] := rfl
      rw [this, List.append_nil]; exact h.pb
    · subst hz
      have : rtk b 0 = [] := rfl
      rw [this, List.nil_append]; exact h.pa
theorem fin_first {tot : List Keyed} {out a b : Array Keyed} {na nb : Nat} (h : MInv Ge tot out.toList (rtk a na) (rtk b nb)) (hb : nb = 1) (h0 : 0 < b.size) (hl : ∀ j, (hj : j < a.size) → kn b[0] ≤ kn a[j]) :
    Fin tot (b.extract 0 nb ++ a.extract 0 na ++ out.reverse) := by
  have e1 : (b.extract 0 nb ++ a.extract 0 na ++ out.reverse).toList = (out.toList ++ (rtk a na ++ rtk b nb)).reverse := by
    simp only [Array.toList_append, take_rtk, Array.toList_reverse, List.reverse_append]
  refine ⟨?_, ?_⟩
  · rw [e1]
    refine (List.reverse_perm _).trans ?_
    rw [← List.append_assoc]
    exact h.pm
  · rw [e1]
    refine pair_flip ?_
    rw [← List.append_assoc]
    refine List.pairwise_append.mpr ⟨h.pa, (List.pairwise_append.mp h.pb).2.1, fun x hx y hy => ?_⟩
    rcases List.mem_append.mp hx with hx | hx
    · exact (List.pairwise_append.mp h.pb).2.2 x hx y hy
    · obtain ⟨j, hj, h1, rfl⟩ := mem_rtk hy
      obtain ⟨i, hi, h2, rfl⟩ := mem_rtk hx
      have : j = 0 := by lia
      subst this
      exact hl i hi
structure HiInv (tot : List Keyed) (a b out : Array Keyed) (na nb : Nat) : Prop where
  inv : MInv Ge tot out.toList (rtk a na) (rtk b nb)
  ha : 0 < na
  hb : 1 < nb
  la : na ≤ a.size
  lb : nb ≤ b.size
theorem HiInv.pushA {tot : List Keyed} {a b out : Array Keyed} {na nb : Nat} (h : MInv Ge tot out.toList (rtk a (na + 1)) (rtk b nb)) (ha : na < a.size) (hr : ∀ j, (hj : j < b.size) → j < nb → kn b[j] ≤ kn a[na]) :
    MInv Ge tot (out.push a[na]).toList (rtk a na) (rtk b nb) := by
  rw [Array.toList_push]
  refine h.takeA (rtk_ix ha) fun x hx y hy => ?_
  rw [List.mem_singleton.mp hx]
  obtain ⟨j, hj, h1, rfl⟩ := mem_rtk hy
  exact hr j hj h1
theorem HiInv.pushB {tot : List Keyed} {a b out : Array Keyed} {na nb : Nat} (h : MInv Ge tot out.toList (rtk a na) (rtk b (nb + 1))) (hb : nb < b.size) (hr : ∀ j, (hj : j < a.size) → j < na → kn a[j] ≤ kn b[nb]) :
    MInv Ge tot (out.push b[nb]).toList (rtk a na) (rtk b nb) := (HiInv.pushA h.swap hb hr).swap
theorem HiInv.runA {tot : List Keyed} {a b out : Array Keyed} {na nb k : Nat} (h : MInv Ge tot out.toList (rtk a na) (rtk b nb)) (hk : k ≤ na) (hr : ∀ i j, (hi : i < a.size) → k ≤ i → i < na → (hj : j < b.size) → j < nb → kn b[j] ≤ kn a[i]) :
    MInv Ge tot (out ++ (a.extract k na).reverse).toList (rtk a k) (rtk b nb) := by
  rw [Array.toList_append]
  refine h.takeA (rtk_run hk) fun x hx y hy => ?_
  obtain ⟨i, hi, h1, h2, rfl⟩ := mem_rrun hx
  obtain ⟨j, hj, h3, rfl⟩ := mem_rtk hy
  exact hr i j hi h1 h2 hj h3
theorem HiInv.runB {tot : List Keyed} {a b out : Array Keyed} {na nb k : Nat} (h : MInv Ge tot out.toList (rtk a na) (rtk b nb)) (hk : k ≤ nb) (hr : ∀ i j, (hi : i < b.size) → k ≤ i → i < nb → (hj : j < a.size) → j < na → kn a[j] ≤ kn b[i]) :
    MInv Ge tot (out ++ (b.extract k nb).reverse).toList (rtk a na) (rtk b k) := (HiInv.runA h.swap hk hr).swap
end Mine
end

section
open PySem PySem.W PyProof.Rows PySem.Spec PySem.Calls
set_option Elab.async false
namespace Mine
section
variable {prog : Program} {w : World} {A : Around} {E : Value → Shared → Prop} {s : Shared}
theorem wpS_mergeHi {st : SortSt} {a b : Array Keyed} {Q : Array Keyed → SortSt → Prop} (hk : PyProof.Rows.kindOf st = oneType') (hak : ∀ p ∈ a.toList, KI p) (hbk : ∀ p ∈ b.toList, KI p) (ha : 0 < a.size) (hb : 0 < b.size)
    (sa : a.toList.Pairwise Le) (sb : b.toList.Pairwise Le) (h1 : kn b[0] ≤ kn a[0]) (h2 : ∀ y ∈ b.toList, Le y (a[a.size - 1]'(by lia)))
    (h : ∀ out st', Like st st' → Fin (a.toList ++ b.toList) out → Q out st') : wpS (model prog w) A E s (mergeHi' a b) Q st := by
  have hka : ∀ i, (hi : i < a.size) → KI a[i] := fun i hi => hak _ (by simp)
  have hkb : ∀ i, (hi : i < b.size) → KI b[i] := fun i hi => hbk _ (by simp)
  have first : ∀ j, (hj : j < a.size) → kn b[0] ≤ kn a[j] := fun j hj => Int.le_trans h1 (ix_le sa (Nat.zero_le j) hj)
  obtain ⟨n, hn⟩ : ∃ n, a.size = n + 1 := ⟨a.size - 1, by lia⟩
  have i0 : MInv Ge (a.toList ++ b.toList) (#[] : Array Keyed).toList (rtk a (n + 1)) (rtk b b.size) := by
    have e1 : rtk a (n + 1) = a.toList.reverse := by unfold rtk; rw [← hn, ← Array.length_toList, List.take_length]
    have e2 : rtk b b.size = b.toList.reverse := by unfold rtk; rw [← Array.length_toList, List.take_length]
    rw [e1, e2]
    refine ⟨?_, ?_, ?_⟩
    · show a.toList.reverse.Pairwise Ge
      rw [List.pairwise_reverse]; exact sa
    · show b.toList.reverse.Pairwise Ge
      rw [List.pairwise_reverse]; exact sb
    · exact ((List.reverse_perm _).append (List.reverse_perm _))
  have hna : n < a.size := by lia
  have hla : ∀ j, (hj : j < b.size) → kn b[j] ≤ kn a[n] := fun j hj => by
    have := h2 b[j] (by simp)
    simp only [hn, Nat.add_sub_cancel] at this
    exact this
  have i1 := HiInv.pushA i0 hna (fun j hj _ => hla j hj)
  have en : a.size - 1 = n := by lia
  with_unfolding_all refine wpS_bind (wpS_lift (wpAny_rule ⟨rfl, ?_⟩))
  rw [en]
  with_unfolding_all refine wpS_bind (wpS_elem hna ?_)
  with_unfolding_all refine wpS_ite (fun c1 => ?_) (fun c1 => ?_)
  · exact wpS_pure (h _ _ (Like.refl _) (fin_doneH i1 (.inl (by simpa using c1))))
  with_unfolding_all refine wpS_ite (fun c2 => ?_) (fun c2 => ?_)
  · exact wpS_pure (h _ _ (Like.refl _) (fin_first i1 (by simpa using c2) hb first))
  have c1' : ¬ (n = 0) := by simpa using c1
  have c2' : ¬ (b.size = 1) := by simpa using c2
  refine wpS_bind (wpS_get ?_)
  refine wpS_bind (wpS_mono (wpS_forRange
    (I := fun x c st' => Like st st' ∧ ∃ na nb out mg, c = (none, na, nb, out, mg) ∧ HiInv (a.toList ++ b.toList) a b out na nb ∧ na + nb + x + 1 ≤ a.size + b.size)
    (Q := fun c st' => Like st st' ∧ ∃ res r, c = (some res, r) ∧ Fin (a.toList ++ b.toList) res) ?step ?fin ⟨Like.refl _, n, b.size, _, _, rfl, ⟨i1, by lia, by lia, by lia, Nat.le_refl _⟩, by lia⟩) ?post)
  case fin =>
    rintro c st' ⟨_, na, nb, out, mg, rfl, hI, hx⟩
    have := hI.ha
    have := hI.hb
    lia
  case post =>
    rintro c st' ⟨hL, res, r, rfl, hF⟩
    exact wpS_pure (h _ _ hL hF)
  case step =>
    rintro x c st₁ _ hx ⟨hL, na, nb, out, mg, rfl, hI, hxi⟩
    (try dsimp -zeta only)
    refine wpS_bind (wpS_mono (wpS_forRange
      (I := fun x c st' => Like st st' ∧ ∃ na' nb' out' ac bc, c = (none, na', nb', out', ac, bc) ∧ HiInv (a.toList ++ b.toList) a b out' na' nb' ∧ na' + nb' + x ≤ na + nb)
      (Q := fun c st' => Like st st' ∧ ((∃ res r, c = (some res, r) ∧ Fin (a.toList ++ b.toList) res) ∨ ∃ na' nb' out' ac bc, c = (none, na', nb', out', ac, bc) ∧ HiInv (a.toList ++ b.toList) a b out' na' nb' ∧ na' + nb' + 1 ≤ na + nb)) ?step1 ?fin1 ⟨hL, na, nb, out, 0, 0, rfl, hI, by lia⟩) ?post1)
    case fin1 =>
      rintro c st' ⟨hL', na', nb', out', ac, bc, rfl, hI', hx'⟩
      exact ⟨hL', .inr ⟨_, _, _, _, _, rfl, hI', by lia⟩⟩
    case step1 =>
      rintro x₁ c st' _ hx1 ⟨hL', na', nb', out', ac, bc, rfl, hI', hx'⟩
      have ha' := hI'.ha
      have hb' := hI'.hb
      have hla' := hI'.la
      have hlb' := hI'.lb
      obtain ⟨p, rfl⟩ : ∃ p, na' = p + 1 := ⟨na' - 1, by lia⟩
      obtain ⟨q, rfl⟩ : ∃ q, nb' = q + 1 := ⟨nb' - 1, by lia⟩
      have hp : p < a.size := by lia
      have hq : q < b.size := by lia
      (try dsimp -zeta only [Nat.add_one_sub_one])
      with_unfolding_all refine wpS_bind (wpS_elem hq ?_)
      with_unfolding_all refine wpS_bind (wpS_elem hp ?_)
      with_unfolding_all refine wpS_bind (wpS_lt (hL'.kind.trans hk) (hkb _ hq) (hka _ hp) ?_)
      with_unfolding_all refine wpS_ite (fun c3 => ?_) (fun c3 => ?_)
      · have hlt : kn b[q] < kn a[p] := by simpa using c3
        with_unfolding_all refine wpS_bind (wpS_elem hp ?_)
        have i2 := HiInv.pushA hI'.inv hp (fun j hj hij => Int.le_trans (ix_le sb (by lia) hq) (Int.le_of_lt hlt))
        with_unfolding_all refine wpS_ite (fun c4 => ?_) (fun c4 => ?_)
        · exact wpS_pure ⟨hL', .inl ⟨_, _, rfl, fin_doneH i2 (.inl (by simpa using c4))⟩⟩
        have c4' : ¬ (p = 0) := by simpa using c4
        have hI2 : HiInv (a.toList ++ b.toList) a b _ p (q + 1) := ⟨i2, by lia, by lia, by lia, by lia⟩
        have g1 : p + (q + 1) + 1 ≤ na + nb := by lia
        have g2 : p + (q + 1) + (x₁ + 1) ≤ na + nb := by lia
        with_unfolding_all refine wpS_ite (fun c5 => ?_) (fun c5 => ?_)
        · exact wpS_pure ⟨hL', .inr ⟨_, _, _, _, _, rfl, hI2, g1⟩⟩
        · exact wpS_pure ⟨hL', _, _, _, _, _, rfl, hI2, g2⟩
      · have hlt : kn a[p] ≤ kn b[q] := by simpa using c3
        with_unfolding_all refine wpS_bind (wpS_elem hq ?_)
        have i2 := HiInv.pushB hI'.inv hq (fun j hj hij => Int.le_trans (ix_le sa (by lia) hp) hlt)
        with_unfolding_all refine wpS_ite (fun c4 => ?_) (fun c4 => ?_)
        · exact wpS_pure ⟨hL', .inl ⟨_, _, rfl, fin_first i2 (by simpa using c4) hb first⟩⟩
        have c4' : ¬ (q = 1) := by simpa using c4
        have hI2 : HiInv (a.toList ++ b.toList) a b _ (p + 1) q := ⟨i2, by lia, by lia, by lia, by lia⟩
        have g1 : (p + 1) + q + 1 ≤ na + nb := by lia
        have g2 : (p + 1) + q + (x₁ + 1) ≤ na + nb := by lia
        with_unfolding_all refine wpS_ite (fun c5 => ?_) (fun c5 => ?_)
        · exact wpS_pure ⟨hL', .inr ⟨_, _, _, _, _, rfl, hI2, g1⟩⟩
        · exact wpS_pure ⟨hL', _, _, _, _, _, rfl, hI2, g2⟩
    case post1 =>
      rintro c st₂ ⟨hL2, ⟨res, r, rfl, hF⟩ | ⟨na', nb', out', ac, bc, rfl, hI', hx'⟩⟩
      · exact wpS_pure ⟨hL2, _, _, rfl, hF⟩
      (try dsimp -zeta only)
      with_unfolding_all refine wpS_bind (wpS_lift (wpAny_rule ⟨rfl, ?_⟩))
      refine wpS_bind (wpS_mono (wpS_forRange
        (I := fun _ c st' => Like st st' ∧ ∃ ja jb o₃ mg₃ ac bc, c = (none, ja, jb, o₃, mg₃, ac, bc) ∧ HiInv (a.toList ++ b.toList) a b o₃ ja jb ∧ ja + jb ≤ na' + nb')
        (Q := fun c st' => Like st st' ∧ ((∃ res r, c = (some res, r) ∧ Fin (a.toList ++ b.toList) res) ∨ ∃ ja jb o₃ mg₃ ac bc, c = (none, ja, jb, o₃, mg₃, ac, bc) ∧ HiInv (a.toList ++ b.toList) a b o₃ ja jb ∧ ja + jb ≤ na' + nb')) ?step2 ?fin2 ⟨hL2, _, _, _, _, _, _, rfl, hI', Nat.le_refl _⟩) ?post2)
      case fin2 =>
        rintro c st' ⟨hL', ja, jb, o₃, mg₃, ac, bc, rfl, hI3, hx3⟩
        exact ⟨hL', .inr ⟨_, _, _, _, _, _, rfl, hI3, hx3⟩⟩
      case post2 =>
        rintro c st₃ ⟨hL3, ⟨res, r, rfl, hF⟩ | ⟨ja, jb, o₃, mg₃, ac, bc, rfl, hI3, hx3⟩⟩
        · exact wpS_pure ⟨hL3, _, _, rfl, hF⟩
        (try dsimp -zeta only)
        with_unfolding_all refine wpS_bind (wpS_modify ?_)
        have hx9 : ja + jb + (x + 1) + 1 ≤ a.size + b.size := by lia
        exact wpS_pure ⟨⟨hL3.kind, hL3.arr, hL3.pend, hL3.failed⟩, ja, jb, o₃, _, rfl, hI3, hx9⟩
      case step2 =>
        rintro x₂ c st₃ _ _ ⟨hL3, ja, jb, o₃, mg₃, ac, bc, rfl, hI3, hx3⟩
        have ha3 := hI3.ha
        have hb3 := hI3.hb
        have hla3 := hI3.la
        have hlb3 := hI3.lb
        have i0 := hI3.inv
        clear hI3
        obtain ⟨q, rfl⟩ : ∃ q, jb = q + 1 := ⟨jb - 1, by lia⟩
        have hq : q < b.size := by lia
        (try dsimp -zeta only)
        revert mg₃
        with_unfolding_all refine wpS_allJ (fun z => z - 1) (fun _ => rfl) ?_
        intro mg₃
        have hL4 : ∀ g, Like st (SortSt.mk' (PyProof.Rows.kindOf st₃) (arrOf st₃) (pendingOf st₃) g (failedOf st₃)) := fun g => ⟨hL3.kind, hL3.arr, hL3.pend, hL3.failed⟩
        with_unfolding_all refine wpS_bind (wpS_modify ?_)
        with_unfolding_all refine wpS_bind (wpS_elem hq ?_)
        with_unfolding_all refine wpS_bind (wpS_gallopR (base := 0) (n := ja) (hint := ja - 1) (hL3.kind.trans hk) (hkb _ hq) hak (by lia) (by lia) (fun i j h1 h2 h3 => K_le sa h2 (by lia)) ?_)
        intro k hk1 hk2 hk3
        have i3 := HiInv.runA i0 hk1 (fun i j hi h1 h2 hj h3 => by rw [← K_kn hi]; exact Int.le_trans (ix_le sb (by lia) hq) (Int.le_of_lt (hk3 i (by lia) (by lia))))
        have hk4 : ∀ i, i < k → K a i ≤ kn b[q] := fun i hi => hk2 i (Nat.zero_le _) (by lia)
        (try dsimp -zeta only [Nat.add_one_sub_one])
        generalize hac : ja - k = ac4
        generalize ho : o₃ = zo
        revert zo
        generalize hj : ja = zj
        revert zj
        with_unfolding_all refine wpS_allK (fun na4 out4 => MInv Ge (a.toList ++ b.toList) out4.toList (rtk a na4) (rtk b (q + 1)) ∧ 0 < na4 ∧ (∀ i, i < na4 → K a i ≤ kn (b[q]'hq)) ∧ na4 ≤ ja) ?h0 ?hx ?hy
        case h0 =>
          intro c6
          exact ⟨i0, by lia, fun i h1 => hk2 i (Nat.zero_le _) (by lia), Nat.le_refl _⟩
        case hx =>
          intro cont c6
          refine wpS_ite (fun c7 => ?_) (fun c7 => ?_)
          · exact wpS_pure ⟨hL4 _, .inl ⟨_, _, rfl, fin_doneH i3 (.inl (by simpa using c7))⟩⟩
          · have c7' : ¬ (k = 0) := by simpa using c7
            exact cont _ _ ⟨i3, by lia, hk4, hk1⟩
        case hy =>
          clear i3 hk1 hk2 hk3 hk4 i0
          rintro na4 out4 ⟨i3, hna4, hk4, hjl⟩
          have hkz : na4 - 1 < a.size := by lia
          (try dsimp -zeta only [Nat.add_one_sub_one])
          with_unfolding_all refine wpS_bind (wpS_elem hq ?_)
          have i5 := HiInv.pushB i3 hq (fun j hj hij => by rw [← K_kn hj]; exact hk4 j hij)
          refine wpS_ite (fun c9 => ?_) (fun c9 => ?_)
          · exact wpS_pure ⟨hL4 _, .inl ⟨_, _, rfl, fin_first i5 (by simpa using c9) hb first⟩⟩
          have c9' : ¬ (q = 1) := by simpa using c9
          with_unfolding_all refine wpS_bind (wpS_elem hkz ?_)
          with_unfolding_all refine wpS_bind (wpS_gallopL (base := 0) (n := q) (hint := q - 1) (hL3.kind.trans hk) (hka (na4 - 1) hkz) hbk (by lia) (by lia) (fun i j h1 h2 h3 => K_le sb h2 (by lia)) ?_)
          intro k' hk1' hk2' hk3'
          have i6 := HiInv.runB i5 hk1' (fun i j hi h1 h2 hj h3 => by rw [← K_kn hi]; exact Int.le_trans (ix_le sa (by lia) hkz) (hk3' i (by lia) (by lia)))
          have hk5 : ∀ i, i < k' → K b i ≤ kn a[na4 - 1] := fun i hi => Int.le_of_lt (hk2' i (Nat.zero_le _) (by lia))
          (try dsimp -zeta only)
          generalize out4.push b[q] = out5 at i5 i6 ⊢
          generalize hbc : q - k' = bc4
          generalize ho : out5 = zo
          revert zo
          generalize hj : q = zj
          revert zj
          with_unfolding_all refine wpS_allK (fun nb6 out6 => MInv Ge (a.toList ++ b.toList) out6.toList (rtk a na4) (rtk b nb6) ∧ 1 < nb6 ∧ (∀ i, i < nb6 → K b i ≤ kn (a[na4 - 1]'hkz)) ∧ nb6 ≤ q) ?h0' ?hx' ?hy'
          case h0' =>
            intro d1
            exact ⟨i5, by lia, fun i h1 => hk5 i (by lia), Nat.le_refl _⟩
          case hx' =>
            intro cont d1
            refine wpS_ite (fun d2 => ?_) (fun d2 => wpS_ite (fun d3 => ?_) (fun d3 => ?_))
            · exact wpS_pure ⟨hL4 _, .inl ⟨_, _, rfl, fin_first i6 (by simpa using d2) hb first⟩⟩
            · exact wpS_pure ⟨hL4 _, .inl ⟨_, _, rfl, fin_doneH i6 (.inr (by simpa using d3))⟩⟩
            · have d2' : ¬ (k' = 1) := by simpa using d2
              have d3' : ¬ (k' = 0) := by simpa using d3
              exact cont _ _ ⟨i6, by lia, hk5, hk1'⟩
          case hy' =>
            clear i5 i6 hk1' hk2' hk3' hk5
            rintro nb6 out6 ⟨i6, hjb, hk5, hjj⟩
            obtain ⟨z, rfl⟩ : ∃ z, na4 = z + 1 := ⟨na4 - 1, by lia⟩
            have hzl : z < a.size := by lia
            dsimp only [Nat.add_one_sub_one] at hk5
            (try dsimp -zeta only [Nat.add_one_sub_one])
            with_unfolding_all refine wpS_bind (wpS_elem hzl ?_)
            have i8 := HiInv.pushA i6 hzl (fun j hj hij => by rw [← K_kn hj]; exact hk5 j hij)
            refine wpS_ite (fun e1 => ?_) (fun e1 => ?_)
            · exact wpS_pure ⟨hL4 _, .inl ⟨_, _, rfl, fin_doneH i8 (.inl (by simpa using e1))⟩⟩
            have e1' : ¬ (z = 0) := by simpa using e1
            have hI8 : HiInv (a.toList ++ b.toList) a b _ z nb6 := ⟨i8, by lia, hjb, by lia, by lia⟩
            have hx8 : z + nb6 ≤ na' + nb' := by lia
            refine wpS_ite (fun e2 => ?_) (fun e2 => ?_)
            · exact wpS_pure ⟨hL4 _, .inr ⟨_, _, _, _, _, _, rfl, hI8, hx8⟩⟩
            · exact wpS_pure ⟨hL4 _, _, _, _, _, _, _, rfl, hI8, hx8⟩
end
end Mine
end

section
open PySem PySem.W PyProof.Rows PySem.Spec PySem.Calls
set_option Elab.async false
namespace Mine
noncomputable abbrev Pend := Array (Nat × Nat × Nat)
/-- a state whose array holds a₀'s pairs, with the runs p told -/
structure SB (a₀ : Array Keyed) (p : Pend) (st : SortSt) : Prop where
  perm : (arrOf st).Perm a₀
  kind : PyProof.Rows.kindOf st = oneType'
  failed : failedOf st = none
  pend : pendingOf st = p
theorem SB.size {a₀ : Array Keyed} {p : Pend} {st : SortSt} (h : SB a₀ p st) : (arrOf st).size = a₀.size := h.perm.size_eq
theorem SB.set {a₀ : Array Keyed} {p : Pend} {st : SortSt} (h : SB a₀ p st) {xs : Array Keyed} (hp : xs.Perm (arrOf st)) : SB a₀ p (setArr st xs) := ⟨hp.trans h.perm, h.kind, h.failed, h.pend⟩
theorem SB.KI {a₀ : Array Keyed} {p : Pend} {st : SortSt} (h : SB a₀ p st) (h0 : IntKeys a₀) : ∀ x ∈ (arrOf st).toList, KI x := fun x hx => h0 x ((Array.perm_iff_toList_perm.mp h.perm).mem_iff.mp hx)
noncomputable def Dist (a : Array Keyed) : Prop := (a.toList.map kn).Nodup
theorem SB.ne {a₀ : Array Keyed} {p : Pend} {st : SortSt} (h : SB a₀ p st) (hd : Dist a₀) {i j : Nat} (hij : i < j) (hj : j < a₀.size) : K (arrOf st) i ≠ K (arrOf st) j := by
  have hn : ((arrOf st).toList.map kn).Nodup := ((Array.perm_iff_toList_perm.mp h.perm).map kn).nodup_iff.mpr hd
  have hs := h.size
  rw [K_kn (by lia), K_kn (by lia)]
  have := List.pairwise_iff_getElem.mp hn i j (by simp; lia) (by simp; lia) hij
  simpa using this
noncomputable def SortedOn (xs : Array Keyed) (lo hi : Nat) : Prop := ∀ i j, lo ≤ i → i ≤ j → j < hi → K xs i ≤ K xs j
noncomputable def FallsOn (xs : Array Keyed) (lo hi : Nat) : Prop := ∀ i j, lo ≤ i → i ≤ j → j < hi → K xs j ≤ K xs i
section
variable {prog : Program} {w : World} {A : Around} {E : Value → Shared → Prop} {s : Shared} {a₀ : Array Keyed} {p : Pend}
theorem wpS_ltI {st : SortSt} {i j : Nat} {Q : Option Bool → SortSt → Prop} (hB : SB a₀ p st) (h0 : IntKeys a₀) (hi : i < a₀.size) (hj : j < a₀.size)
    (h : Q (some (decide (K (arrOf st) i < K (arrOf st) j))) st) : wpS (model prog w) A E s (ltAt' i j) Q st := by
  have hs := hB.size
  rw [ltAt'_eq]
  refine wpS_bind (wpS_get ?_)
  refine wpS_bind (wpS_elem (by lia) ?_)
  refine wpS_bind (wpS_elem (by lia) ?_)
  refine wpS_lt hB.kind (hB.KI h0 _ (by simp)) (hB.KI h0 _ (by simp)) ?_
  rw [← K_kn, ← K_kn]; exact h
theorem wpS_rev {st : SortSt} {i j : Nat} {Q : Unit → SortSt → Prop} (h : Q () (setArr st (mirror (arrOf st) i j ((j - i) / 2)))) :
    wpS (model prog w) A E s (reverseSlice' i j) Q st := by
  rw [reverseSlice'_eq]; exact wpS_modify h
/-- binary insertion of a run that begins at lo -/
theorem wpS_binaryAt {st : SortSt} {lo n ok : Nat} {Q : Bool → SortSt → Prop} (h0 : IntKeys a₀) (hn : lo + n ≤ a₀.size) (hok : ok ≤ n) (h1 : 1 ≤ ok) (hB : SB a₀ p st) (hs : SortedOn (arrOf st) lo (lo + ok))
    (h : ∀ st', SB a₀ p st' → SortedOn (arrOf st') lo (lo + n) → (∀ i, i < lo → K (arrOf st') i = K (arrOf st) i) → Q true st') : wpS (model prog w) A E s (binarySort' lo n ok) Q st := by
  with_unfolding_all refine wpS_bind (wpS_mono (wpS_forRange (I := fun k c st' => c = (none, ()) ∧ SB a₀ p st' ∧ SortedOn (arrOf st') lo (lo + k) ∧ (∀ i, i < lo → K (arrOf st') i = K (arrOf st) i))
    (Q := fun c st' => c = (none, ()) ∧ SB a₀ p st' ∧ SortedOn (arrOf st') lo (lo + n) ∧ (∀ i, i < lo → K (arrOf st') i = K (arrOf st) i)) ?step ?fin ?init) ?post)
  case post =>
    rintro c st' ⟨rfl, hB', hs', hu⟩
    exact wpS_pure (h st' hB' hs' hu)
  case init =>
    rw [show max ok 1 = ok by lia]
    exact ⟨rfl, hB, hs, fun _ _ => rfl⟩
  case fin =>
    rintro c st' ⟨hc, hB', hs', hu⟩
    rw [show max (max ok 1) n = n by lia] at hs'
    exact ⟨hc, hB', hs', hu⟩
  case step =>
    rintro k c st' hak hkn ⟨rfl, hB', hs', hu⟩
    dsimp only
    refine wpS_bind (wpS_mono (wpS_forRange (I := fun x c st'' => st' = st'' ∧ ∃ l r, c = (none, l, r) ∧ l ≤ r ∧ r ≤ k ∧ r - l ≤ k - x ∧
        (∀ i, i < l → K (arrOf st') (lo + i) ≤ K (arrOf st') (lo + k)) ∧ (∀ i, r ≤ i → i < k → K (arrOf st') (lo + k) < K (arrOf st') (lo + i)))
      (Q := fun c st'' => st' = st'' ∧ ∃ l r, c = (none, l, r) ∧ l ≤ k ∧
        (∀ i, i < l → K (arrOf st') (lo + i) ≤ K (arrOf st') (lo + k)) ∧ (∀ i, l ≤ i → i < k → K (arrOf st') (lo + k) < K (arrOf st') (lo + i))) ?istep ?ifin ?iinit) ?ipost)
    case iinit => exact ⟨rfl, 0, k, rfl, by lia, by lia, by lia, fun i hi => by lia, fun i h1 h2 => by lia⟩
    case ifin =>
      rintro c st'' ⟨rfl, l, r, rfl, hlr, hrk, hm, hlo, hhi⟩
      have e : l = r := by lia
      subst e
      exact ⟨rfl, l, l, rfl, hrk, hlo, hhi⟩
    case istep =>
      rintro x c st'' _ hxk ⟨rfl, l, r, rfl, hlr, hrk, hm, hlo, hhi⟩
      dsimp only
      refine wpS_ite (fun hge => ?_) (fun hge => ?_)
      · have e : l = r := by lia
        subst e
        exact wpS_pure ⟨rfl, l, l, rfl, hrk, hlo, hhi⟩
      · with_unfolding_all refine wpS_bind (wpS_ltI (p := p) hB' h0 (show lo + k < a₀.size by lia) (show lo + (l + r) / 2 < a₀.size by lia) ?_)
        dsimp only
        refine wpS_ite (fun hl => ?_) (fun hl => ?_)
        · have hless := of_decide_eq_true hl
          exact wpS_pure ⟨rfl, l, (l + r) / 2, rfl, by lia, by lia, by lia, hlo, fun i h1 h2 => Int.lt_of_lt_of_le hless (hs' _ _ (by lia) (by lia) (by lia))⟩
        · have hless : ¬ _ := fun q => hl (decide_eq_true q)
          exact wpS_pure ⟨rfl, (l + r) / 2 + 1, r, rfl, by lia, by lia, by lia, fun i h1 => Int.le_trans (hs' _ (lo + (l + r) / 2) (by lia) (by lia) (by lia)) (Int.not_lt.mp hless), hhi⟩
    case ipost =>
      rintro c st'' ⟨rfl, l, r, rfl, hlk, hlo, hhi⟩
      dsimp only
      have hks : lo + k < (arrOf st').size := by rw [hB'.size]; lia
      have hcut : lo + k - (lo + l) = k - l := by lia
      with_unfolding_all refine wpS_bind (wpS_modify (wpS_pure ⟨rfl, hB'.set (bubble_perm _ (lo + k) (lo + k - (lo + l))), ?_, ?_⟩))
      · intro i j h1 hij hj
        show K (bubble (arrOf st') (lo + k) (lo + k - (lo + l))) i ≤ K (bubble (arrOf st') (lo + k) (lo + k - (lo + l))) j
        rw [K_bubble hks (by lia), K_bubble hks (by lia), show lo + k - (lo + k - (lo + l)) = lo + l by lia]
        have A1 : ∀ q, lo ≤ q → q < lo + l → K (arrOf st') q ≤ K (arrOf st') (lo + k) := fun q h1 h2 => by
          have := hlo (q - lo) (by lia); rw [show lo + (q - lo) = q by lia] at this; exact this
        have A2 : ∀ q, lo + l ≤ q → q < lo + k → K (arrOf st') (lo + k) ≤ K (arrOf st') q := fun q h1 h2 => by
          have := hhi (q - lo) (by lia) (by lia); rw [show lo + (q - lo) = q by lia] at this; exact Int.le_of_lt this
        repeat' split
        all_goals first
          | (exfalso; lia)
          | exact Int.le_refl _
          | exact A1 _ (by lia) (by lia)
          | exact A2 _ (by lia) (by lia)
          | exact hs' _ _ (by lia) (by lia) (by lia)
      · intro i hi
        show K (bubble (arrOf st') (lo + k) (lo + k - (lo + l))) i = _
        rw [K_bubble hks (by lia), if_neg (by lia), if_neg (by lia)]
        exact hu i hi
/-- a loop that goes on while the keys rise -/
theorem rise_step {xs : Array Keyed} {lo n : Nat} (hs : SortedOn xs lo (lo + n)) (h : ¬ K xs (lo + n) < K xs (lo + n - 1)) (hn : 1 ≤ n) : SortedOn xs lo (lo + (n + 1)) := by
  intro i j h1 hij hj
  by_cases hjn : j < lo + n
  · exact hs i j h1 hij hjn
  · have e : j = lo + n := by lia
    subst e
    by_cases e : i = lo + n
    · subst e; exact Int.le_refl _
    · exact Int.le_trans (hs i (lo + n - 1) h1 (by lia) (by lia)) (Int.not_lt.mp h)
theorem fall_step {xs : Array Keyed} {lo n : Nat} (hs : FallsOn xs lo (lo + n)) (h : K xs (lo + n) < K xs (lo + n - 1)) (hn : 1 ≤ n) : FallsOn xs lo (lo + (n + 1)) := by
  intro i j h1 hij hj
  by_cases hjn : j < lo + n
  · exact hs i j h1 hij hjn
  · have e : j = lo + n := by lia
    subst e
    by_cases e : i = lo + n
    · subst e; exact Int.le_refl _
    · exact Int.le_trans (Int.le_of_lt h) (hs i (lo + n - 1) h1 (by lia) (by lia))
theorem wpS_countAt {st : SortSt} {lo nrem : Nat} {Q : Option Nat → SortSt → Prop} (h0 : IntKeys a₀) (hd : Dist a₀) (hn : lo + nrem ≤ a₀.size) (h1 : 1 ≤ nrem) (hB : SB a₀ p st)
    (h : ∀ m st', SB a₀ p st' → 1 ≤ m → m ≤ nrem → SortedOn (arrOf st') lo (lo + m) → (∀ i, i < lo → K (arrOf st') i = K (arrOf st) i) → Q (some m) st') :
    wpS (model prog w) A E s (countRun' lo nrem) Q st := by
  have one : ∀ xs : Array Keyed, SortedOn xs lo (lo + 1) := fun xs i j a1 a2 a3 => by
    have e : i = j := by lia
    subst e; exact Int.le_refl _
  with_unfolding_all refine wpS_bind (wpS_mono (wpS_forRange (I := fun x c st' => st = st' ∧ c = (none, x) ∧ SortedOn (arrOf st) lo (lo + x))
    (Q := fun c st' => st = st' ∧ ∃ n, c = (none, n) ∧ 1 ≤ n ∧ n ≤ nrem ∧ SortedOn (arrOf st) lo (lo + n) ∧ (n = nrem ∨ K (arrOf st) (lo + n) < K (arrOf st) (lo + n - 1))) ?step ?fin ⟨rfl, rfl, one _⟩) ?post)
  case fin =>
    rintro c st' ⟨rfl, rfl, hs⟩
    rw [show max 1 nrem = nrem by lia] at hs ⊢
    exact ⟨rfl, _, rfl, h1, Nat.le_refl _, hs, .inl rfl⟩
  case step =>
    rintro x c st' hx1 hx2 ⟨rfl, rfl, hs⟩
    dsimp only
    with_unfolding_all refine wpS_bind (wpS_ltI hB h0 (show lo + x < a₀.size by lia) (show lo + x - 1 < a₀.size by lia) ?_)
    dsimp only
    refine wpS_ite (fun hl => ?_) (fun hl => ?_)
    · exact wpS_pure ⟨rfl, x, rfl, hx1, by lia, hs, .inr (of_decide_eq_true hl)⟩
    · exact wpS_pure ⟨rfl, rfl, rise_step hs (fun q => hl (decide_eq_true q)) hx1⟩
  case post =>
    rintro c st' ⟨rfl, n, rfl, hn1, hn2, hs, hor⟩
    dsimp only
    refine wpS_ite (fun c1 => wpS_pure (h n st hB hn1 hn2 hs fun _ _ => rfl)) (fun c1 => ?_)
    have c1' : ¬ (n = nrem) := by simpa using c1
    have hlt := hor.resolve_left c1'
    refine wpS_ite (fun c2 => ?_) (fun c2 => ?_)
    · with_unfolding_all refine wpS_bind (wpS_ltI hB h0 (show lo < a₀.size by lia) (show lo + n - 1 < a₀.size by lia) ?_)
      dsimp only
      refine wpS_ite (fun c3 => wpS_pure (h n st hB hn1 hn2 hs fun _ _ => rfl)) (fun c3 => ?_)
      have a1 := hs lo (lo + n - 1) (Nat.le_refl _) (by lia) (by lia)
      have a2 := hB.ne hd (show lo < lo + n - 1 by lia) (by lia)
      exact absurd (decide_eq_true (show K (arrOf st) lo < K (arrOf st) (lo + n - 1) by lia)) c3
    · have e : n = 1 := by lia
      subst e
      with_unfolding_all refine wpS_bind (wpS_lift (wpAny_rule ⟨rfl, ?_⟩))
      refine wpS_bind (wpS_mono (wpS_forRange (I := fun x c st' => st = st' ∧ c = (none, x, 0) ∧ FallsOn (arrOf st) lo (lo + x))
        (Q := fun c st' => st = st' ∧ ∃ n, c = (none, n, 0) ∧ 2 ≤ n ∧ n ≤ nrem ∧ FallsOn (arrOf st) lo (lo + n)) ?step2 ?fin2 ⟨rfl, rfl, ?init2⟩) ?post2)
      case init2 =>
        intro i j b1 b2 b3
        by_cases e : i = j
        · subst e; exact Int.le_refl _
        · have e1 : i = lo := by lia
          have e2 : j = lo + 1 := by lia
          subst e1; subst e2
          rw [show i + 1 - 1 = i by lia] at hlt
          exact Int.le_of_lt hlt
      case fin2 =>
        rintro c st' ⟨rfl, rfl, hf⟩
        rw [show max (1 + 1) nrem = nrem by lia] at hf ⊢
        exact ⟨rfl, _, rfl, by lia, Nat.le_refl _, hf⟩
      case step2 =>
        rintro x c st' hx1 hx2 ⟨rfl, rfl, hf⟩
        dsimp only
        with_unfolding_all refine wpS_bind (wpS_ltI hB h0 (show lo + x < a₀.size by lia) (show lo + x - 1 < a₀.size by lia) ?_)
        dsimp only
        refine wpS_ite (fun hl => ?_) (fun hl => ?_)
        · refine wpS_ite (fun q => absurd q (by decide)) (fun _ => ?_)
          exact wpS_pure ⟨rfl, rfl, fall_step hf (of_decide_eq_true hl) (by lia)⟩
        · with_unfolding_all refine wpS_bind (wpS_ltI hB h0 (show lo + x - 1 < a₀.size by lia) (show lo + x < a₀.size by lia) ?_)
          dsimp only
          refine wpS_ite (fun _ => wpS_pure ⟨rfl, x, rfl, hx1, by lia, hf⟩) (fun hg => ?_)
          have b1 : ¬ K (arrOf st) (lo + x) < K (arrOf st) (lo + x - 1) := fun q => hl (decide_eq_true q)
          have b2 : ¬ K (arrOf st) (lo + x - 1) < K (arrOf st) (lo + x) := fun q => hg (decide_eq_true q)
          have b3 := hB.ne hd (show lo + x - 1 < lo + x by lia) (by lia)
          lia
      case post2 =>
        rintro c st' ⟨rfl, n, rfl, hn1, hn2, hf⟩
        dsimp only
        refine wpS_ite (fun q => absurd q (by decide)) (fun _ => ?_)
        have hsz : lo + n ≤ (arrOf st).size := by rw [hB.size]; lia
        with_unfolding_all refine wpS_bind (wpS_rev ?_)
        have hB2 : SB a₀ p (setArr st (mirror (arrOf st) lo (lo + n) ((lo + n - lo) / 2))) := hB.set (mirror_perm _ _ _ _)
        have hs2 : SortedOn (arrOf (setArr st (mirror (arrOf st) lo (lo + n) ((lo + n - lo) / 2)))) lo (lo + n) := by
          intro i j b1 b2 b3
          show K (mirror (arrOf st) lo (lo + n) ((lo + n - lo) / 2)) i ≤ K (mirror (arrOf st) lo (lo + n) ((lo + n - lo) / 2)) j
          rw [K_mirror hsz, K_mirror hsz, if_pos (by lia), if_pos (by lia)]
          exact hf _ _ (by lia) (by lia) (by lia)
        have hu2 : ∀ i, i < lo → K (arrOf (setArr st (mirror (arrOf st) lo (lo + n) ((lo + n - lo) / 2)))) i = K (arrOf st) i := by
          intro i hi
          show K (mirror (arrOf st) lo (lo + n) ((lo + n - lo) / 2)) i = _
          rw [K_mirror hsz, if_neg (by lia)]
        obtain ⟨st₂, he⟩ : ∃ z, setArr st (mirror (arrOf st) lo (lo + n) ((lo + n - lo) / 2)) = z := ⟨_, rfl⟩
        rw [he] at hB2 hs2 hu2 ⊢
        refine wpS_bind (wpS_mono (wpS_forRange (I := fun x c st' => st₂ = st' ∧ c = (none, x) ∧ SortedOn (arrOf st₂) lo (lo + x))
          (Q := fun c st' => st₂ = st' ∧ ∃ n, c = (none, n) ∧ 1 ≤ n ∧ n ≤ nrem ∧ SortedOn (arrOf st₂) lo (lo + n)) ?step3 ?fin3 ⟨rfl, rfl, hs2⟩) ?post3)
        case fin3 =>
          rintro c st' ⟨rfl, rfl, hs⟩
          rw [show max n nrem = nrem by lia] at hs ⊢
          exact ⟨rfl, _, rfl, h1, Nat.le_refl _, hs⟩
        case step3 =>
          rintro x c st' hx1 hx2 ⟨rfl, rfl, hs⟩
          dsimp only
          with_unfolding_all refine wpS_bind (wpS_ltI hB2 h0 (show lo + x < a₀.size by lia) (show lo + x - 1 < a₀.size by lia) ?_)
          dsimp only
          refine wpS_ite (fun hl => ?_) (fun hl => ?_)
          · exact wpS_pure ⟨rfl, x, rfl, by lia, by lia, hs⟩
          · exact wpS_pure ⟨rfl, rfl, rise_step hs (fun q => hl (decide_eq_true q)) (by lia)⟩
        case post3 =>
          rintro c st' ⟨rfl, m, rfl, hm1, hm2, hs⟩
          exact wpS_pure (h m st₂ hB2 hm1 hm2 hs hu2)
end
end Mine
end

section
open PySem PySem.W PyProof.Rows PySem.Spec PySem.Calls
set_option Elab.async false
namespace Mine
theorem foldl_put (sa : Nat) : ∀ (l : List Keyed) (j : Nat) (a : Array Keyed), sa + j + l.length ≤ a.size →
    ((l.zipIdx j).foldl (fun a (x : Keyed × Nat) => a.setIfInBounds (sa + x.2) x.1) a).toList = a.toList.take (sa + j) ++ l ++ a.toList.drop (sa + j + l.length)
  | [], j, a, _ => by simp
  | x :: l, j, a, h => by
    rw [List.length_cons] at h
    rw [List.zipIdx_cons, List.foldl_cons, foldl_put sa l (j + 1) _ (by rw [Array.size_setIfInBounds]; lia), Array.toList_setIfInBounds]
    have hl : sa + j < a.toList.length := by rw [Array.length_toList]; lia
    have e1 : (a.toList.set (sa + j) x).take (sa + (j + 1)) = a.toList.take (sa + j) ++ [x] := by
      rw [List.set_eq_take_append_cons_drop, if_pos hl]
      rw [List.take_append, List.length_take, Nat.min_eq_left (Nat.le_of_lt hl), List.take_of_length_le (by rw [List.length_take]; lia), show sa + (j + 1) - (sa + j) = 1 by lia]; rfl
    have e2 : (a.toList.set (sa + j) x).drop (sa + (j + 1) + l.length) = a.toList.drop (sa + j + (x :: l).length) := by
      rw [List.drop_set_of_lt (by lia), List.length_cons]; congr 1; lia
    rw [e1, e2]; simp
theorem pair_of_on {xs : Array Keyed} {lo hi : Nat} (h : SortedOn xs lo hi) (hs : hi ≤ xs.size) : ((xs.toList.drop lo).take (hi - lo)).Pairwise Le := by
  rw [List.pairwise_iff_getElem]
  intro i j hi' hj' hij
  rw [List.length_take, List.length_drop, Array.length_toList] at hi' hj'
  have := h (lo + i) (lo + j) (by lia) (by lia) (by lia)
  rw [K_kn (by lia), K_kn (by lia)] at this
  rw [List.getElem_take, List.getElem_take, List.getElem_drop, List.getElem_drop, Array.getElem_toList, Array.getElem_toList]
  exact this
theorem on_of_pair {xs : Array Keyed} (h : xs.toList.Pairwise Le) : SortedTo xs xs.size := fun i j hij hj => K_le h hij hj
theorem mem_cut_ix {a : Array Keyed} {lo n : Nat} {x : Keyed} (h : x ∈ (a.toList.drop lo).take n) : ∃ j, ∃ hj : j < a.size, lo ≤ j ∧ j < lo + n ∧ x = a[j] := by
  obtain ⟨i, hi, e⟩ := List.getElem_of_mem h
  rw [List.length_take, List.length_drop, Array.length_toList] at hi
  rw [List.getElem_take, List.getElem_drop] at e
  exact ⟨lo + i, by lia, by lia, by lia, by rw [← e, Array.getElem_toList]⟩
theorem cut_eq (a : Array Keyed) (lo hi : Nat) : (a.extract lo hi).toList = (a.toList.drop lo).take (hi - lo) := by
  rw [Array.toList_extract, List.extract_eq_take_drop]
/-- two runs, merged where they overlap -/
theorem merged_ok {a out : Array Keyed} {n1 k m : Nat} (h1 : SortedOn a 0 n1) (h2 : SortedOn a n1 a.size) (hk : k < n1) (hm : 0 < m) (hsz : n1 + m ≤ a.size)
    (hk1 : ∀ i, i < k → K a i ≤ K a n1) (hm2 : ∀ i, n1 + m ≤ i → i < a.size → K a (n1 - 1) ≤ K a i) (hF : Fin ((a.extract k n1).toList ++ (a.extract n1 (n1 + m)).toList) out) :
    ((out.toList.zipIdx.foldl (fun a (x : Keyed × Nat) => a.setIfInBounds (k + x.2) x.1) a).Perm a) ∧ (out.toList.zipIdx.foldl (fun a (x : Keyed × Nat) => a.setIfInBounds (k + x.2) x.1) a).toList.Pairwise Le := by
  have hmid : (a.extract k n1).toList ++ (a.extract n1 (n1 + m)).toList = (a.toList.drop k).take (n1 + m - k) := by
    rw [cut_eq, cut_eq, show n1 + m - k = (n1 - k) + (n1 + m - n1) by lia, List.take_add, List.drop_drop, show k + (n1 - k) = n1 by lia]
  rw [hmid] at hF
  have hlen : out.toList.length = n1 + m - k := by
    rw [hF.1.length_eq, List.length_take, List.length_drop, Array.length_toList]; lia
  have e := foldl_put k out.toList 0 a (by lia)
  rw [Nat.add_zero, hlen, show k + (n1 + m - k) = n1 + m by lia] at e
  have ea : a.toList = a.toList.take k ++ (a.toList.drop k).take (n1 + m - k) ++ a.toList.drop (n1 + m) := by
    have x1 := List.take_append_drop k a.toList
    have x2 := List.take_append_drop (n1 + m - k) (a.toList.drop k)
    rw [List.drop_drop, show k + (n1 + m - k) = n1 + m by lia] at x2
    rw [List.append_assoc, x2, x1]
  refine ⟨Array.perm_iff_toList_perm.mpr ?_, ?_⟩
  · rw [e]
    conv => rhs; rw [ea]
    exact (List.Perm.append_left _ hF.1).append_right _
  · have c1 : ∀ i j, i < k → k ≤ j → j < a.size → K a i ≤ K a j := fun i j x1 x2 x3 => by
      rcases Nat.lt_or_ge j n1 with q | q
      · exact h1 i j (Nat.zero_le _) (by lia) q
      · exact Int.le_trans (hk1 i x1) (h2 n1 j (Nat.le_refl _) q x3)
    have c2 : ∀ i j, i < n1 + m → n1 + m ≤ j → j < a.size → K a i ≤ K a j := fun i j x1 x2 x3 => by
      rcases Nat.lt_or_ge i n1 with q | q
      · exact Int.le_trans (h1 i (n1 - 1) (Nat.zero_le _) (by lia) (by lia)) (hm2 j x2 x3)
      · exact h2 i j q (by lia) x3
    have hA : (a.toList.take k).Pairwise Le := by
      have := pair_of_on (lo := 0) (hi := k) (xs := a) (fun i j x1 x2 x3 => h1 i j x1 x2 (by lia)) (by lia)
      simpa using this
    have hC : (a.toList.drop (n1 + m)).Pairwise Le := by
      have := pair_of_on (lo := n1 + m) (hi := a.size) (xs := a) (fun i j x1 x2 x3 => h2 i j (by lia) x2 x3) (Nat.le_refl _)
      rw [List.take_of_length_le (by rw [List.length_drop, Array.length_toList]; lia)] at this
      exact this
    rw [e]
    refine List.pairwise_append.mpr ⟨List.pairwise_append.mpr ⟨hA, hF.2, fun x hx y hy => ?_⟩, hC, fun x hx y hy => ?_⟩
    · obtain ⟨i, hi, _, x2, rfl⟩ := mem_cut_ix (lo := 0) (n := k) (by simpa using hx)
      obtain ⟨j, hj, y1, y2, rfl⟩ := mem_cut_ix (hF.1.mem_iff.mp hy)
      have := c1 i j (by lia) y1 hj
      rw [K_kn hi, K_kn hj] at this
      exact this
    · obtain ⟨j, hj, y1, rfl⟩ := mem_drop_ix hy
      have hxx : ∃ i, ∃ hi : i < a.size, i < n1 + m ∧ x = a[i] := by
        rcases List.mem_append.mp hx with hx | hx
        · obtain ⟨i, hi, _, x2, rfl⟩ := mem_cut_ix (lo := 0) (n := k) (by simpa using hx)
          exact ⟨i, hi, by lia, rfl⟩
        · obtain ⟨i, hi, _, x2, rfl⟩ := mem_cut_ix (hF.1.mem_iff.mp hx)
          exact ⟨i, hi, by lia, rfl⟩
      obtain ⟨i, hi, x1, rfl⟩ := hxx
      have := c2 i j x1 y1 hj
      rw [K_kn hi, K_kn hj] at this
      exact this
theorem joined_ok {a : Array Keyed} {n1 : Nat} (h1 : SortedOn a 0 n1) (h2 : SortedOn a n1 a.size) (hn : 0 < n1) (hn2 : n1 < a.size) (h : K a (n1 - 1) ≤ K a n1) : SortedTo a a.size := fun i j hij hj => by
  rcases Nat.lt_or_ge j n1 with q | q
  · exact h1 i j (Nat.zero_le _) hij q
  · rcases Nat.lt_or_ge i n1 with r | r
    · exact Int.le_trans (h1 i (n1 - 1) (Nat.zero_le _) (by lia) (by lia)) (Int.le_trans h (h2 n1 j (Nat.le_refl _) q hj))
    · exact h2 i j r hij hj
section
variable {prog : Program} {w : World} {A : Around} {E : Value → Shared → Prop} {s : Shared} {a₀ : Array Keyed} {p : Pend}
theorem wpS_set {M : Model} {st st' : SortSt} {Q : PUnit → SortSt → Prop} (h : Q ⟨⟩ st') : wpS M A E s (set st' : StateT SortSt Sem PUnit) Q st := by
  unfold wpS; rw [StateT.run_set]; exact wpAny_pure ⟨rfl, h⟩
theorem wpS_setOf {M : Model} {st st' st'' : SortSt} {Q : PUnit → SortSt → Prop} (e : st'' = st') (h : Q ⟨⟩ st') : wpS M A E s (set st'' : StateT SortSt Sem PUnit) Q st := by
  rw [e]; exact wpS_set h
/-- the two runs told, merged -/
theorem wpS_mergeTwo {st : SortSt} {n1 n2 pw : Nat} {Q : Bool → SortSt → Prop} (h0 : IntKeys a₀) (hB : SB a₀ #[(0, n1, pw), (n1, n2, 0)] st) (h1 : SortedOn (arrOf st) 0 n1) (h2 : SortedOn (arrOf st) n1 a₀.size) (hn1 : 0 < n1) (hn2 : 0 < n2) (hsz : n1 + n2 = a₀.size)
    (h : ∀ st', SB a₀ #[(0, n1 + n2, pw)] st' → SortedTo (arrOf st') a₀.size → Q true st') : wpS (model prog w) A E s (mergeAt' 0) Q st := by
  have hs := hB.size
  have hp := hB.pend
  unfold pendingOf at hp
  have hne : n1 < (arrOf st).size := by lia
  rw [← hs] at h2
  have hK : ∀ x ∈ (arrOf st).toList, KI x := hB.KI h0
  with_unfolding_all refine wpS_bind (wpS_get ?_)
  rw [hp]
  have ep : ((#[(0, n1, pw), (n1, n2, 0)] : Pend).setIfInBounds 0 (0, n1 + n2, pw)).eraseIdxIfInBounds (0 + 1) = #[(0, n1 + n2, pw)] := by simp [Array.eraseIdxIfInBounds]
  with_unfolding_all refine wpS_bind (wpS_setOf (congrArg (fun p => SortSt.mk' (PyProof.Rows.kindOf st) (arrOf st) p (gallopOf st) (failedOf st)) ep) ?_)
  have hB2 : SB a₀ #[(0, n1 + n2, pw)] (SortSt.mk' (PyProof.Rows.kindOf st) (arrOf st) #[(0, n1 + n2, pw)] (gallopOf st) (failedOf st)) := ⟨hB.perm, hB.kind, hB.failed, rfl⟩
  have done : K (arrOf st) (n1 - 1) ≤ K (arrOf st) n1 → Q true (SortSt.mk' (PyProof.Rows.kindOf st) (arrOf st) #[(0, n1 + n2, pw)] (gallopOf st) (failedOf st)) := fun q => h _ hB2 (by
    have := joined_ok h1 h2 hn1 hne q
    rw [← hs]; exact this)
  with_unfolding_all refine wpS_bind (wpS_elem hne ?_)
  with_unfolding_all refine wpS_bind (wpS_gallopR (arr := arrOf st) (base := 0) (n := n1) (hint := 0) hB.kind (hK _ (by simp)) hK (by lia) (by lia) (fun i j q1 q2 q3 => h1 i j q1 q2 (by lia)) ?_)
  intro k hk1 hk2 hk3
  rw [← K_kn] at hk2 hk3
  dsimp only
  refine wpS_ite (fun c1 => ?_) (fun c1 => ?_)
  · have e : n1 - k = 0 := by simpa using c1
    exact wpS_pure (done (hk2 (n1 - 1) (Nat.zero_le _) (by lia)))
  have c1' : ¬ (n1 - k = 0) := by simpa using c1
  have el : 0 + k + (n1 - k) - 1 = n1 - 1 := by lia
  rw [el]
  with_unfolding_all refine wpS_bind (wpS_elem (show n1 - 1 < (arrOf st).size by lia) ?_)
  with_unfolding_all refine wpS_bind (wpS_gallopL (arr := arrOf st) (base := n1) (n := n2) (hint := n2 - 1) hB.kind (hK _ (by simp)) hK (by lia) (by lia) (fun i j q1 q2 q3 => h2 i j q1 q2 (by lia)) ?_)
  intro m hm1 hm2 hm3
  rw [← K_kn] at hm2 hm3
  dsimp only
  refine wpS_ite (fun c2 => ?_) (fun c2 => ?_)
  · have e : m = 0 := by simpa using c2
    exact wpS_pure (done (hm3 n1 (by lia) (by lia)))
  have c2' : ¬ (m = 0) := by simpa using c2
  rw [Nat.zero_add]
  obtain ⟨X, hX⟩ : ∃ X, (arrOf st).extract k n1 = X := ⟨_, rfl⟩
  obtain ⟨Y, hY⟩ : ∃ Y, (arrOf st).extract n1 (n1 + m) = Y := ⟨_, rfl⟩
  have xs : X.size = n1 - k := by rw [← hX, Array.size_extract]; lia
  have ys : Y.size = m := by rw [← hY, Array.size_extract]; lia
  have sX : X.toList.Pairwise Le := by
    rw [← hX, cut_eq]; exact pair_of_on (fun i j q1 q2 q3 => h1 i j (by lia) q2 q3) (by lia)
  have sY : Y.toList.Pairwise Le := by
    rw [← hY, cut_eq]; exact pair_of_on (fun i j q1 q2 q3 => h2 i j (by lia) q2 (by lia)) (by lia)
  have hXK : ∀ p ∈ X.toList, KI p := fun p hp => by
    rw [← hX, cut_eq] at hp
    exact hK _ (List.mem_of_mem_drop (List.mem_of_mem_take hp))
  have hYK : ∀ p ∈ Y.toList, KI p := fun p hp => by
    rw [← hY, cut_eq] at hp
    exact hK _ (List.mem_of_mem_drop (List.mem_of_mem_take hp))
  have x0 : X[0] = (arrOf st)[k]'(by lia) := by
    simp only [← hX, Array.getElem_extract]; rfl
  have y0 : Y[0] = (arrOf st)[n1] := by
    simp only [← hY, Array.getElem_extract]; rfl
  have xl : X[X.size - 1] = (arrOf st)[n1 - 1]'(by lia) := by
    have e : k + (X.size - 1) = n1 - 1 := by lia
    have : X[X.size - 1]? = (arrOf st)[n1 - 1]? := by
      rw [← hX, Array.getElem?_extract]
      have e2 : k + (((arrOf st).extract k n1).size - 1) = n1 - 1 := by rw [hX]; exact e
      rw [e2, if_pos (by rw [hX]; lia)]
    rw [Array.getElem?_eq_getElem (by lia), Array.getElem?_eq_getElem (by lia)] at this
    exact Option.some.inj this
  have hb1 : kn Y[0] ≤ kn X[0] := by
    rw [x0, y0, ← K_kn, ← K_kn]
    exact Int.le_of_lt (hk3 k (by lia) (by lia))
  have hb2 : ∀ y ∈ Y.toList, Le y (X[X.size - 1]'(by lia)) := fun y hy => by
    rw [← hY, cut_eq] at hy
    obtain ⟨j, hj, q1, q2, rfl⟩ := mem_cut_ix hy
    unfold Le
    rw [xl, ← K_kn, ← K_kn]
    exact Int.le_of_lt (hm2 j q1 (by lia))
  have close : ∀ (out : Array Keyed) (st' : SortSt), Like (SortSt.mk' (PyProof.Rows.kindOf st) (arrOf st) #[(0, n1 + n2, pw)] (gallopOf st) (failedOf st)) st' → Fin (X.toList ++ Y.toList) out →
      Q (failedOf st').isNone (setArr st' (out.toList.zipIdx.foldl (fun a (x : Keyed × Nat) => a.setIfInBounds (k + x.2) x.1) (arrOf st'))) := by
    intro out st' hL hF
    have hf : failedOf st' = none := hL.failed.trans hB.failed
    rw [hf]
    have ha : arrOf st' = arrOf st := hL.arr
    rw [← hX, ← hY] at hF
    have hM := merged_ok h1 h2 (by lia) (by lia) (by lia) (fun i hi => hk2 i (Nat.zero_le _) (by lia)) (fun i q1 q2 => hm3 i q1 (by lia)) hF
    rw [← ha] at hM
    refine h _ ⟨hM.1.trans (by rw [ha]; exact hB.perm), hL.kind.trans hB.kind, hf, hL.pend⟩ ?_
    have := on_of_pair hM.2
    have es := hM.1.size_eq.trans (show (arrOf st').size = a₀.size by rw [ha, hs])
    rw [es] at this
    exact this
  rw [hX, hY]
  refine wpS_ite (fun c3 => ?_) (fun c3 => ?_)
  · with_unfolding_all refine wpS_bind (wpS_mergeLo hB.kind hXK hYK (by lia) (by lia) sX sY hb1 hb2 ?_)
    intro out st' hL hF
    with_unfolding_all refine wpS_bind (wpS_modify ?_)
    with_unfolding_all refine wpS_bind (wpS_get ?_)
    exact wpS_pure (close out st' hL hF)
  · with_unfolding_all refine wpS_bind (wpS_mergeHi hB.kind hXK hYK (by lia) (by lia) sX sY hb1 hb2 ?_)
    intro out st' hL hF
    with_unfolding_all refine wpS_bind (wpS_modify ?_)
    with_unfolding_all refine wpS_bind (wpS_get ?_)
    exact wpS_pure (close out st' hL hF)
end
end Mine
end

section
open PySem PySem.W PyProof.Rows PySem.Spec PySem.Calls
set_option Elab.async false
namespace Mine
section
variable {prog : Program} {w : World} {A : Around} {E : Value → Shared → Prop} {s : Shared} {a₀ : Array Keyed}
noncomputable def End1 (a₀ : Array Keyed) (st : SortSt) : Prop := ∃ pw, SB a₀ #[(0, a₀.size, pw)] st ∧ SortedTo (arrOf st) a₀.size
noncomputable def End2 (a₀ : Array Keyed) (st : SortSt) : Prop := ∃ n1 n2 pw, SB a₀ #[(0, n1, pw), (n1, n2, 0)] st ∧ SortedOn (arrOf st) 0 n1 ∧ SortedOn (arrOf st) n1 a₀.size ∧ 0 < n1 ∧ 0 < n2 ∧ n1 + n2 = a₀.size
theorem min_run {n : Nat} (h1 : 64 ≤ n) (h2 : n ≤ 66) : ∃ mr, minRun' n n 0 = mr ∧ mr ≤ 33 ∧ 1 ≤ mr ∧ n - mr ≤ mr ∧ mr < n := by
  have : n = 64 ∨ n = 65 ∨ n = 66 := by lia
  rcases this with e | e | e <;> subst e
  · exact ⟨32, by decide +kernel, by lia, by lia, by lia, by lia⟩
  · exact ⟨33, by decide +kernel, by lia, by lia, by lia, by lia⟩
  · exact ⟨33, by decide +kernel, by lia, by lia, by lia, by lia⟩
theorem wpS_sortMore {st : SortSt} {Q : Unit → SortSt → Prop} (h0 : IntKeys a₀) (hd : Dist a₀) (hB : SB a₀ #[] st) (h1 : 64 ≤ a₀.size) (h2 : a₀.size ≤ 66)
    (h : ∀ st', (arrOf st').Perm a₀ → failedOf st' = none → SortedTo (arrOf st') a₀.size → Q () st') : wpS (model prog w) A E s sortRuns' Q st := by
  obtain ⟨mr, hmr, m33, m1, m2, m3⟩ := min_run h1 h2
  have hsz := hB.size
  unfold arrOf at hsz
  unfold minRun' at hmr
  with_unfolding_all refine wpS_bind (wpS_get ?_)
  rw [hsz]
  dsimp only
  rw [hmr]
  refine wpS_bind (wpS_mono (wpS_forRange
    (I := fun x c st' => (x = 0 ∧ c = (none, 0) ∧ SB a₀ #[] st') ∨ (x = 1 ∧ ∃ n1, c = (none, n1) ∧ mr ≤ n1 ∧ n1 < a₀.size ∧ SB a₀ #[(0, n1, 0)] st' ∧ SortedOn (arrOf st') 0 n1) ∨ (1 ≤ x ∧ c = (none, a₀.size) ∧ (End1 a₀ st' ∨ End2 a₀ st')))
    (Q := fun c st' => c = (none, a₀.size) ∧ (End1 a₀ st' ∨ End2 a₀ st')) ?step ?fin (.inl ⟨rfl, rfl, hB⟩)) ?post)
  case fin =>
    rintro c st' (⟨hx, _, _⟩ | ⟨hx, _⟩ | ⟨_, hc, hE⟩)
    · lia
    · lia
    · exact ⟨hc, hE⟩
  case step =>
    rintro x c st₁ _ hx (⟨rfl, rfl, hB1⟩ | ⟨rfl, n1, rfl, hn1, hn2, hB1, hs1⟩ | ⟨hx1, rfl, hE⟩)
    · dsimp only
      refine wpS_ite (fun c1 => absurd c1 (by lia)) (fun _ => ?_)
      with_unfolding_all refine wpS_bind (wpS_countAt h0 hd (show 0 + (a₀.size - 0) ≤ a₀.size by lia) (by lia) hB1 ?_)
      intro m st₂ hB2 hm1 hm2 hs2 _
      have fin : ∀ st₃ n, SB a₀ #[] st₃ → mr ≤ n → n ≤ a₀.size → SortedOn (arrOf st₃) 0 (0 + n) → 
          (0 + 1 = 0 ∧ ((none, 0 + n) : Option Unit × Nat) = (none, 0) ∧ SB a₀ #[] (setPending st₃ ((pendingOf st₃).push (0, n, 0)))) ∨ (0 + 1 = 1 ∧ ∃ n1, ((none, 0 + n) : Option Unit × Nat) = (none, n1) ∧ mr ≤ n1 ∧ n1 < a₀.size ∧ SB a₀ #[(0, n1, 0)] (setPending st₃ ((pendingOf st₃).push (0, n, 0))) ∧ SortedOn (arrOf (setPending st₃ ((pendingOf st₃).push (0, n, 0)))) 0 n1) ∨ (1 ≤ 0 + 1 ∧ ((none, 0 + n) : Option Unit × Nat) = (none, a₀.size) ∧ (End1 a₀ (setPending st₃ ((pendingOf st₃).push (0, n, 0))) ∨ End2 a₀ (setPending st₃ ((pendingOf st₃).push (0, n, 0))))) := by
        intro st₃ n hB3 q1 q2 q3
        have e0 : 0 + n = n := Nat.zero_add n
        rw [e0] at q3 ⊢
        have hB4 : SB a₀ #[(0, n, 0)] (setPending st₃ ((pendingOf st₃).push (0, n, 0))) := ⟨hB3.perm, hB3.kind, hB3.failed, by show (pendingOf st₃).push _ = _; rw [hB3.pend]; rfl⟩
        by_cases e : n = a₀.size
        · subst e
          exact .inr (.inr ⟨by lia, rfl, .inl ⟨0, hB4, fun i j hij hj => q3 i j (Nat.zero_le _) hij hj⟩⟩)
        · exact .inr (.inl ⟨rfl, n, rfl, q1, by lia, hB4, q3⟩)
      dsimp only
      refine wpS_ite (fun c2 => ?_) (fun c2 => ?_)
      · with_unfolding_all refine wpS_bind (wpS_lift (wpAny_rule ⟨rfl, ?_⟩))
        have hmin : min (a₀.size - 0) mr = mr := by lia
        rw [hmin]
        with_unfolding_all refine wpS_bind (wpS_binaryAt h0 (show 0 + mr ≤ a₀.size by lia) (show m ≤ mr by lia) hm1 hB2 hs2 ?_)
        intro st₃ hB3 hs3 _
        refine wpS_ite (fun q => absurd q (by decide)) (fun _ => ?_)
        with_unfolding_all refine wpS_bind (wpS_get ?_)
        have hp := hB3.pend
        unfold pendingOf at hp
        rw [hp]
        with_unfolding_all refine wpS_bind (wpS_modify ?_)
        exact wpS_pure (fin st₃ mr hB3 (Nat.le_refl _) (by lia) hs3)
      · with_unfolding_all refine wpS_bind (wpS_get ?_)
        have hp := hB2.pend
        unfold pendingOf at hp
        rw [hp]
        with_unfolding_all refine wpS_bind (wpS_modify ?_)
        exact wpS_pure (fin st₂ m hB2 (by lia) (by lia) hs2)
    · dsimp only
      refine wpS_ite (fun c1 => absurd c1 (by lia)) (fun _ => ?_)
      with_unfolding_all refine wpS_bind (wpS_countAt h0 hd (show n1 + (a₀.size - n1) ≤ a₀.size by lia) (by lia) hB1 ?_)
      intro m st₂ hB2 hm1 hm2 hs2 hu2
      have fin : ∀ st₃ n pw, n = a₀.size - n1 → SB a₀ #[(0, n1, pw), (n1, n, 0)] st₃ → SortedOn (arrOf st₃) n1 (n1 + n) → (∀ i, i < n1 → K (arrOf st₃) i = K (arrOf st₁) i) →
          (1 + 1 = 0 ∧ ((none, n1 + n) : Option Unit × Nat) = (none, 0) ∧ SB a₀ #[] st₃) ∨ (1 + 1 = 1 ∧ ∃ n1', ((none, n1 + n) : Option Unit × Nat) = (none, n1') ∧ mr ≤ n1' ∧ n1' < a₀.size ∧ SB a₀ #[(0, n1', 0)] st₃ ∧ SortedOn (arrOf st₃) 0 n1') ∨ (1 ≤ 1 + 1 ∧ ((none, n1 + n) : Option Unit × Nat) = (none, a₀.size) ∧ (End1 a₀ st₃ ∨ End2 a₀ st₃)) := by
        intro st₃ n pw q1 q2 q3 q4
        have e : n1 + n = a₀.size := by lia
        rw [e] at q3 ⊢
        exact .inr (.inr ⟨by lia, rfl, .inr ⟨n1, n, pw, q2, fun i j x1 x2 x3 => by rw [q4 i (by lia), q4 j x3]; exact hs1 i j x1 x2 x3, q3, by lia, by lia, e⟩⟩)
      have hmin : min (a₀.size - n1) mr = a₀.size - n1 := by lia
      dsimp only
      refine wpS_ite (fun c2 => ?_) (fun c2 => ?_)
      · with_unfolding_all refine wpS_bind (wpS_lift (wpAny_rule ⟨rfl, ?_⟩))
        rw [hmin]
        with_unfolding_all refine wpS_bind (wpS_binaryAt h0 (show n1 + (a₀.size - n1) ≤ a₀.size by lia) hm2 hm1 hB2 hs2 ?_)
        intro st₃ hB3 hs3 hu3
        refine wpS_ite (fun q => absurd q (by decide)) (fun _ => ?_)
        have hu4 : ∀ i, i < n1 → K (arrOf st₃) i = K (arrOf st₁) i := fun i hi => (hu3 i hi).trans (hu2 i hi)
        generalize hnn : a₀.size - n1 = n at *
        with_unfolding_all refine wpS_bind (wpS_get ?_)
        have hp := hB3.pend
        unfold pendingOf at hp
        rw [hp]
        with_unfolding_all refine wpS_bind (wpS_mono (wpS_forRange (I := fun _ c st' => st₃ = st' ∧ c = (none, ())) (Q := fun c st' => st₃ = st' ∧ c = (none, ())) ?s1 (fun _ _ hh => hh) ⟨rfl, rfl⟩) ?s2)
        case s1 =>
          rintro y c st' _ _ ⟨rfl, rfl⟩
          with_unfolding_all refine wpS_bind (wpS_get ?_)
          rw [hp]
          with_unfolding_all exact wpS_pure ⟨rfl, rfl⟩
        case s2 =>
          rintro c st' ⟨rfl, rfl⟩
          with_unfolding_all refine wpS_bind (wpS_modify ?_)
          with_unfolding_all refine wpS_bind (wpS_modify ?_)
          exact wpS_pure (fin _ n _ rfl ⟨hB3.perm, hB3.kind, hB3.failed, (by show (((pendingOf st₃).modify ((pendingOf st₃).size - 1) _).push _) = _; rw [hB3.pend]; rfl)⟩ hs3 hu4)
      · have hmn : m = a₀.size - n1 := by lia
        with_unfolding_all refine wpS_bind (wpS_get ?_)
        have hp := hB2.pend
        unfold pendingOf at hp
        rw [hp]
        with_unfolding_all refine wpS_bind (wpS_mono (wpS_forRange (I := fun _ c st' => st₂ = st' ∧ c = (none, ())) (Q := fun c st' => st₂ = st' ∧ c = (none, ())) ?t1 (fun _ _ hh => hh) ⟨rfl, rfl⟩) ?t2)
        case t1 =>
          rintro y c st' _ _ ⟨rfl, rfl⟩
          with_unfolding_all refine wpS_bind (wpS_get ?_)
          rw [hp]
          with_unfolding_all exact wpS_pure ⟨rfl, rfl⟩
        case t2 =>
          rintro c st' ⟨rfl, rfl⟩
          with_unfolding_all refine wpS_bind (wpS_modify ?_)
          with_unfolding_all refine wpS_bind (wpS_modify ?_)
          exact wpS_pure (fin _ m _ hmn ⟨hB2.perm, hB2.kind, hB2.failed, (by show (((pendingOf st₂).modify ((pendingOf st₂).size - 1) _).push _) = _; rw [hB2.pend]; rfl)⟩ hs2 hu2)
    · dsimp only
      refine wpS_ite (fun _ => ?_) (fun c1 => absurd (Nat.le_refl _) c1)
      exact wpS_pure ⟨rfl, hE⟩
  case post =>
    rintro c st₁ ⟨rfl, hE⟩
    dsimp only
    refine wpS_bind (wpS_mono (wpS_forRange (I := fun x c st' => c = (none, ()) ∧ (End1 a₀ st' ∨ (x = 0 ∧ End2 a₀ st'))) (Q := fun c st' => c = (none, ()) ∧ End1 a₀ st') ?pstep ?pfin ⟨rfl, ?pin⟩) ?ppost)
    case pin =>
      rcases hE with hE | hE
      · exact .inl hE
      · exact .inr ⟨rfl, hE⟩
    case pfin =>
      rintro c st' ⟨hc, hE | ⟨hx, _⟩⟩
      · exact ⟨hc, hE⟩
      · lia
    case ppost =>
      rintro c st' ⟨rfl, pw, hB', hs'⟩
      exact wpS_pure (h st' hB'.perm hB'.failed hs')
    case pstep =>
      rintro x c st' _ hx ⟨rfl, ⟨pw, hB', hs'⟩ | ⟨rfl, n1, n2, pw, hB', hs1, hs2, hn1, hn2, hnn⟩⟩
      · with_unfolding_all refine wpS_bind (wpS_get ?_)
        have hp := hB'.pend
        unfold pendingOf at hp
        rw [hp]
        refine wpS_ite (fun _ => ?_) (fun q => absurd (show (1 : Nat) ≤ 1 from Nat.le_refl 1) q)
        exact wpS_pure ⟨rfl, pw, hB', hs'⟩
      · with_unfolding_all refine wpS_bind (wpS_get ?_)
        have hp := hB'.pend
        unfold pendingOf at hp
        rw [hp]
        refine wpS_ite (fun q => absurd (show (2 : Nat) ≤ 1 from q) (by lia)) (fun _ => ?_)
        with_unfolding_all refine wpS_bind (wpS_mergeTwo h0 hB' hs1 hs2 hn1 hn2 hnn ?_)
        intro st₂ hB2 hs3
        rw [hnn] at hB2
        refine wpS_ite (fun q => absurd q (by decide)) (fun _ => ?_)
        exact wpS_pure ⟨rfl, .inl ⟨pw, hB2, hs3⟩⟩
end
end Mine
end

section
open PySem PySem.W PyProof.Rows PySem.Spec PySem.Calls
set_option Elab.async false
namespace Mine
section
variable {prog : Program} {w : World} {A : Around} {E : Value → Shared → Prop} {s : Shared}
theorem int_is {prog : Program} {w : World} {k : Int} {v : Value} (h : (PySem.intKind prog w).is k v = true) : ∃ t, v = .int k t := Value.isInt_shape h
theorem ints_at : ∀ {vs : List Value} {ns : List Int}, vs.length = ns.length → (∀ (j : Nat) (u : Value), vs[j]? = some u → ∃ k : Int, ns[j]? = some k ∧ ∃ t, u = Value.int k t) → IntsAre vs ns
  | [], [], _, _ => .nil
  | [], _ :: _, h, _ => absurd h (by simp)
  | _ :: _, [], h, _ => absurd h (by simp)
  | v :: vs, n :: ns, h, hv => by
    obtain ⟨k, hk, t, rfl⟩ := hv 0 v rfl
    have e : n = k := Option.some.inj hk
    subst e
    exact .cons n t (ints_at (by simpa using h) fun j u hj => hv (j + 1) u hj)
theorem pairs_keys {vs : List Value} {ns : List Int} (hI : IntsAre vs ns) : (pairsOf vs).toList.map kn = ns := by
  rw [pairsOf_toList]
  have : (vs.zip vs).map kn = ((vs.zip vs).map Prod.fst).map numOf := by rw [List.map_map]; rfl
  rw [this, List.map_fst_zip (Nat.le_refl _), hI.nums]
/-- list.sort of at most 66 distinct numbers -/
theorem sort_tree66 {a : Addr} {vs : List Value} {ns : List Int} {n : Nat} {P : PySem.Fin → Shared → Prop} (ho : s.heap.get? a = some (seqObj "list" vs.toArray n))
    (hI : IntsAre vs ns) (h66 : vs.length ≤ 66) (hnd : ns.Nodup)
    (h : ∀ (out : Array Value) (ns' : List Int), IntsAre out.toList ns' → ns'.Perm ns → ns'.Pairwise (· ≤ ·) → P (.done (.ret .none)) { s with heap := sortedHeap s.heap a vs out }) :
    wpAny (model prog w) A (Builtin.«list.sort» ⟨[.ref a], []⟩) P E s := by
  rcases Nat.lt_or_ge vs.length 64 with h64 | h64
  · exact list_sort_tree ho hI h64 h
  rw [list_sort_plain]
  have ha : a < s.heap.objs.size := Heap.lt_size ho
  refine wpAny_bind (listItems_at ho rfl ?_)
  refine wpAny_bind (listUpdate_at ho rfl ?_)
  obtain ⟨e1, ho1⟩ : ∃ e1, (s.heap.update a (Obj.mapSeq fun _ => #[])).get? a = some (seqObj "list" #[] e1) := ⟨_, get?_update_seq ho (fun _ => #[])⟩
  refine wpAny_bind (seqEpoch_at ho1 rfl ?_)
  refine wpAny_bind (wpAny_newTuple ?_)
  refine wpAny_bind (wpAny_newList ?_)
  refine wpAny_holding ?_
  have ho6 : (((s.heap.update a (Obj.mapSeq fun _ => #[])).push (seqObj "tuple" vs.toArray 0)).push (seqObj "list" #[] 0)).get? a = some (seqObj "list" #[] e1) := by
    rw [Heap.get?_push_ne _ _ _ (by rw [size_push', Heap.size_update]; exact Nat.ne_of_lt (Nat.lt_succ_of_lt ha)), Heap.get?_push_ne _ _ _ (by rw [Heap.size_update]; exact Nat.ne_of_lt ha)]
    exact ho1
  show wpAny (model prog w) A _ P E { s with heap := ((s.heap.update a (Obj.mapSeq fun _ => #[])).push (seqObj "tuple" vs.toArray 0)).push (seqObj "list" #[] 0) }
  dsimp only
  have h2 : ¬ vs.toArray.size < 2 := by rw [List.size_toArray]; lia
  rw [if_neg h2, if_neg h2]
  have hk : keyKind' vs.toArray = pure oneType' := by
    match vs, h64, hI with
    | v₁ :: v₂ :: rest, _, hI => exact keyKind_ints hI
    | [_], h, _ => exact absurd h (by simp)
    | [], h, _ => exact absurd h (by simp)
  rw [hk]
  refine wpAny_bind (wpAny_pure ?_)
  refine wpAny_bind (wpAny_mono (wpS_sortMore (a₀ := pairsOf vs) (st := SortSt.mk' oneType' (vs.toArray.zip vs.toArray) #[] 7 none)
    (Q := fun _ st' => (arrOf st').Perm (pairsOf vs) ∧ failedOf st' = none ∧ SortedTo (arrOf st') (pairsOf vs).size)
    hI.intKeys (by unfold Dist; rw [pairs_keys hI]; exact hnd) ⟨Array.Perm.refl _, rfl, rfl, rfl⟩ (by rw [pairsOf_size]; exact h64) (by rw [pairsOf_size]; exact h66) fun st' a1 a2 a3 => ⟨a1, a2, a3⟩) ?_ fun _ _ e => e)
  rintro ⟨⟨⟩, st'⟩ s' ⟨rfl, hp, hf, hs⟩
  dsimp only
  refine wpAny_bind (seqEpoch_at ho6 rfl ?_)
  refine wpAny_bind (listUpdate_at ho6 rfl ?_ (hsz2 := by refine Nat.le_trans (Nat.le_of_eq ((Array.size_map ..).trans (hp.size_eq.trans (pairsOf_size _)))) ?_; rw [sizeLine_eq]; lia))
  rw [hf]
  simp only [bne_self_eq_false, Bool.false_eq_true, if_false]
  obtain ⟨ns', q1, q2, q3⟩ := sorted_out hI hp hs
  exact wpAny_pure (h _ ns' q1 q2 q3)
variable {h₀ : Heap} {L d v : Addr} {m : Str → Option Value} {news : List (Addr × Obj)} {o : Obj} {kvs : List (Int × Value)} {c : List (Int × Int)}
theorem sort66 {D : Addr} {vs : List Value} {ns : List Int} {Q : Value → Shared → Prop} (F : Fr h₀ L s.heap m) (N : News h₀ L s.heap ((D, listOf vs.toArray 0) :: news)) (hl : ∀ q ∈ news, q.1 < D) (hI : IntsAre vs ns) (h66 : vs.length ≤ 66) (hnd : ns.Nodup)
    (h : ∀ h' vs' c' ks, Fr h₀ L h' m → News h₀ L h' ((D, listOf vs'.toArray c') :: news) → IntsAre vs' ks → List.Perm ks ns → ks.Pairwise (· ≤ ·) → Q .none { s with heap := h' }) :
    wpAny (model prog w) A (call (.builtin "list.sort") [.ref D]) Q E s := by
  have z := N (D, listOf vs.toArray 0) List.mem_cons_self
  refine wpAny_call_entry PyProof.Rows.slot_list_sort ⟨_, z.1, rfl⟩ PyProof.Rows.entry_list_sort (sort_tree66 (n := 0) (vs := vs) z.1 hI h66 hnd fun out ns' hI' hp hP => ⟨.none, rfl, ?_⟩) (PyProof.Rows.args_list_sort _)
  have ab : ∀ p ∈ ([] : List (Addr × Obj)), p.1 ≠ D := fun p hp => (nomatch hp)
  have bb : ∀ p ∈ news, p.1 ≠ D := fun p hp => Nat.ne_of_lt (hl p hp)
  have F1 : Fr h₀ L (s.heap.update D (Obj.mapSeq fun _ => (#[] : Array Value))) m := F.change (Heap.SameBut.update ..) z.2.1 z.2.2
  have N0 : News h₀ L s.heap ([] ++ (D, listOf vs.toArray 0) :: news) := N
  obtain ⟨n1, e1⟩ : ∃ n1, (if (#[] : Array Value).size == vs.toArray.size then 0 else 0 + 1) = n1 := ⟨_, rfl⟩
  have N1 := ki_turn (fun _ => (#[] : Array Value)) (its' := #[]) (n' := n1) N0 ab bb rfl e1
  have N2 := News.grown N1 fun _ _ e => Heap.get?_push_of_some (seqObj "tuple" vs.toArray 0) e
  have N3 := News.grown N2 fun _ _ e => Heap.get?_push_of_some (seqObj "list" #[] 0) e
  obtain ⟨n2, e2⟩ : ∃ n2, (if out.size == (#[] : Array Value).size then n1 else n1 + 1) = n2 := ⟨_, rfl⟩
  have N4 := ki_turn (fun _ => out) (its' := out) (n' := n2) N3 ab bb rfl e2
  have F4 : Fr h₀ L ((((s.heap.update D (Obj.mapSeq fun _ => (#[] : Array Value))).push (seqObj "tuple" vs.toArray 0)).push (seqObj "list" #[] 0)).update D (Obj.mapSeq fun _ => out)) m :=
    ((F1.push (seqObj "tuple" vs.toArray 0)).push (seqObj "list" #[] 0)).change (Heap.SameBut.update ..) z.2.1 z.2.2
  refine h _ out.toList n2 ns' F4 ?_ hI' hp hP
  rw [Array.toArray_toList]
  exact N4
/-- sorted(d.keys()) -/
theorem j_sorted {Q : Value → Shared → Prop} (hh : A.handled = none) (F : Fr h₀ L s.heap m) (N : News h₀ L s.heap news) (hv : (v, { cls := .type "dict_keys", data := .fields #[.ref d] }) ∈ news) (hm : (d, o) ∈ news) (hd : o.IsDictOf (PySem.intKind prog w) kvs) (hf : PyProof.V.FlatPairs PyData.int kvs (kdfD c)) (lo : (d == sysModules) = false) (hn : c.length ≤ 66) (hnd : (c.map (·.1)).Nodup)
    (h : ∀ D h' tk vs c' ks, Fr h₀ L h' m → News h₀ L h' ((D, listOf vs.toArray c') :: news) → (∀ q ∈ news, q.1 < D) → IntsAre vs ks → List.Perm ks (c.map (·.1)) → ks.Pairwise (· ≤ ·) → Q (.ref D) { s with heap := h', toks := tk }) :
    wpAny (model prog w) A (call (.builtin "sorted") [.ref v]) Q E s := by
  have hlen : kvs.length = c.length := by
    have := hf.length
    unfold kdfD at this
    rw [List.length_map] at this
    exact this.symm
  have hsz : kvs.length ≤ sizeLine := by rw [sizeLine_eq]; lia
  have hD : s.heap.DictOf (PySem.intKind prog w) d kvs := PySem.Heap.dictOf_iff.mpr ⟨o, (N _ hm).1, hd⟩
  obtain ⟨ep, hat⟩ := hD.dictAt
  refine kdu_sorted (kdl_keys (knd := PySem.intKind prog w) (kvs := kvs) (ep := ep)) hh F N ⟨⟨_, (N _ hv).1, rfl, rfl⟩, hat⟩ hsz fun B h' tk vs F' N' l1 hl hv => ?_
  have hI : IntsAre vs (c.map (·.1)) := by
    refine ints_at (by rw [hl, hlen, List.length_map]) fun j u hj => ?_
    obtain ⟨k, x, hx, hk⟩ := hv j u hj
    obtain ⟨dv, hd', _⟩ := hf.at hx
    unfold kdfD at hd'
    rw [List.getElem?_map] at hd'
    obtain ⟨q, hq, e⟩ := Option.map_eq_some_iff.mp hd'
    injection e with e1 e2
    injection e1 with e1
    rw [List.getElem?_map, hq]
    exact ⟨k, by rw [← e1]; rfl, int_is hk⟩
  exact sort66 (A := A.in1) F' N' l1 hI (by lia) hnd fun h₂ vs' c' ks F₂ N₂ q1 q2 q3 => h B h₂ tk vs' c' ks F₂ N₂ l1 q1 q2 q3
end
end Mine
end

section
open PySem PySem.W PyProof.Rows PySem.Spec PySem.Calls
set_option Elab.async false
namespace Mine
/-- the octets of a number, the highest first -/
noncomputable def BE (k : Nat) (x : Int) : List Int := (KTBy.little k x).reverse
theorem BE_len (k : Nat) (x : Int) : (BE k x).length = k := by unfold BE; rw [List.length_reverse, KTBy.little_length]
theorem flat_len (xs : List Int) (k : Nat) : (xs.flatMap (BE k)).length = xs.length * k := by
  induction xs with
  | nil => simp
  | cons x xs ih => rw [List.flatMap_cons, List.length_append, BE_len, ih, List.length_cons, Nat.succ_mul, Nat.add_comm]
section
variable {prog : Program} {w : World} {A : Around} {E : Value → Shared → Prop} {s : Shared} {h₀ : Heap} {L la lb : Addr} {m : Str → Option Value} {news : List (Addr × Obj)} {us vs : List Value} {ns ms : List Int} {c d : Nat} {x : Int} {t u v : Tok} {b b' : Array UInt8}
theorem j_to4 {Q : Value → Shared → Prop} (h0 : 0 ≤ x) (h1 : x < 4294967296) (h : ∀ b t' k', KBw.bInts b = BE 4 x → Q (.bytes b t') { s with toks := k' }) :
    wpAny (model prog w) A (call (.builtin "int.to_bytes") [.int x t, .int 4 u, .str (PySem.Str.ofString "big") v]) Q E s :=
  KTBy.to_big (k := 4) (B := 4294967296) (by decide) (by decide) h0 h1 fun b t' k' e _ => h b t' k' e
theorem j_to8 {Q : Value → Shared → Prop} (h0 : 0 ≤ x) (h1 : x < 18446744073709551616) (h : ∀ b t' k', KBw.bInts b = BE 8 x → Q (.bytes b t') { s with toks := k' }) :
    wpAny (model prog w) A (call (.builtin "int.to_bytes") [.int x t, .int 8 u, .str (PySem.Str.ofString "big") v]) Q E s :=
  KTBy.to_big (k := 8) (B := 18446744073709551616) (by decide) (by decide) h0 h1 fun b t' k' e _ => h b t' k' e
theorem j_cat {Q : Value → Shared → Prop} (F : Fr h₀ L s.heap m) (N : News h₀ L s.heap news) (ha : (la, listOf us.toArray c) ∈ news) (hb : (lb, listOf vs.toArray d) ∈ news) (hi : IntsAre us ns) (hj : IntsAre vs ms) (hz : ns.length + ms.length ≤ 16777216)
    (h : ∀ r h', Fr h₀ L h' m → News h₀ L h' ((r, listOf (us ++ vs).toArray 0) :: news) → AllLt r news → IntsAre (us ++ vs) (ns ++ ms) → Q (.ref r) { s with heap := h' }) :
    wpAny (model prog w) A (binaryOp .Add (.ref la) (.ref lb)) Q E s :=
  add_lists_ints (hsz := by rw [sizeLine_eq]; exact hz) F N (led_list N ha) (led_list N hb) hi hj fun h' F' N' hk => h _ h' F' N' (by
    have : ∀ l : List (Addr × Obj), (∀ p ∈ l, p.1 < s.heap.objs.size) → AllLt s.heap.objs.size l := fun l => by
      induction l with
      | nil => intro _; trivial
      | cons p l ih => intro hp; exact ⟨hp p List.mem_cons_self, ih fun q hq => hp q (List.mem_cons_of_mem _ hq)⟩
    exact this _ fun p hp => Heap.lt_size (N p hp).1) hk
theorem j_addb {Q : Value → Shared → Prop} {ks ls : List Int} (hb : KBw.bInts b = ks) (hc : KBw.bInts b' = ls) (hsz : ks.length + ls.length ≤ 16777216) (h : ∀ t' k, KBw.bInts (b ++ b') = ks ++ ls → Q (.bytes (b ++ b') t') { s with toks := k }) : wpAny (model prog w) A (binaryOp .Add (.bytes b t) (.bytes b' u)) Q E s :=
  KBa.add_K hb hc hsz h
theorem noI_bytes_add : typeLookup (.type "bytes") (dunderI "add") = pure none := by rw [typeLookup_type, builtinLookup_eq_fast]; kernel_rfl
theorem j_iaddb {Q : Value → Shared → Prop} {ks ls : List Int} (hb : KBw.bInts b = ks) (hc : KBw.bInts b' = ls) (hsz : ks.length + ls.length ≤ 16777216) (h : ∀ t' k, KBw.bInts (b ++ b') = ks ++ ls → Q (.bytes (b ++ b') t') { s with toks := k }) : wpAny (model prog w) A (inplaceOp .Add (.bytes b t) (.bytes b' u)) Q E s := by
  have hsz' : b.size + b'.size ≤ 16777216 := by rw [← KBw.ints_length b, ← KBw.ints_length b', hb, hc]; exact hsz
  have hap : KBw.bInts (b ++ b') = ks ++ ls := KBw.ints_app hb hc
  have h2 := fun t' k => h t' k hap
  clear h
  refine iconcat_gives (typeIs_bytes s b t) (typeIs_bytes s b' u) noI_bytes_add KBy.noFill_bytes_add KBy.seq_bytes_add FB.slot_bytes_add FB.entry_bytes_add (FB.args_bytes_add_2 _ _) (KBy.gives_bytes_add (KBy.tooLong_not hsz')) ?_
  by_cases h1 : b.isEmpty = true
  · rw [if_pos h1]
    have e : b = #[] := Array.isEmpty_iff.1 h1
    have h' := h2 u s.toks
    rw [e, Array.empty_append] at h'
    exact h'
  · rw [if_neg h1]
    by_cases h3 : b'.isEmpty = true
    · rw [if_pos h3]
      have e : b' = #[] := Array.isEmpty_iff.1 h3
      have h' := h2 t s.toks
      rw [e, Array.append_empty] at h'
      exact h'
    · rw [if_neg h3]
      exact ⟨by rw [Array.size_append, sizeLine_eq]; exact hsz', h2 s.toks (s.toks + 1)⟩
end
end Mine
end

section
open PySem PySem.W PyProof.Rows PySem.Spec PySem.Calls
set_option Elab.async false
namespace Mine
theorem rows_bounds (ws : List Int) : ∀ r ∈ rowsS ws, r.1 ≤ ws.length ∧ r.2.length ≤ ws.length ∧ ∀ x ∈ r.2, x ∈ ws := by
  refine list_snoc_induction (P := fun ws => ∀ r ∈ rowsS ws, r.1 ≤ ws.length ∧ r.2.length ≤ ws.length ∧ ∀ x ∈ r.2, x ∈ ws) (fun r hr => by cases hr) (fun l x h r hr => ?_) ws
  have e : rowsS (l ++ [x]) = addW (rowsS l) x := by unfold rowsS; rw [List.foldl_append]; rfl
  rw [e] at hr
  have lift : ∀ r ∈ rowsS l, r.1 ≤ (l ++ [x]).length ∧ r.2.length ≤ (l ++ [x]).length ∧ ∀ y ∈ r.2, y ∈ l ++ [x] := fun r hr => by
    have := h r hr
    refine ⟨?_, ?_, fun y hy => List.mem_append_left _ (this.2.2 y hy)⟩ <;> simp only [List.length_append] <;> lia
  have hl : (l ++ [x]).length = l.length + 1 := by simp
  revert hr lift
  generalize hR : rowsS l = R
  rw [hR] at h
  intro hr lift
  unfold addW at hr
  split at hr
  · split at hr
    · rename_i z R'
      rcases List.mem_cons.mp hr with e | hr
      · have := h _ List.mem_cons_self
        rw [e, hl]; exact ⟨by simp only at this ⊢; lia, by simp, fun y hy => by cases hy⟩
      · exact lift r (List.mem_cons_of_mem _ hr)
    · rcases List.mem_cons.mp hr with e | hr
      · rw [e, hl]; exact ⟨by simp, by simp, fun y hy => by cases hy⟩
      · exact lift r hr
  · split at hr
    · rename_i z ls R'
      rcases List.mem_cons.mp hr with e | hr
      · have := h _ List.mem_cons_self
        rw [e, hl]
        refine ⟨by simp only at this ⊢; lia, by simp only [List.length_append, List.length_cons, List.length_nil] at this ⊢; lia, fun y hy => ?_⟩
        rcases List.mem_append.mp hy with hy | hy
        · exact List.mem_append_left _ (this.2.2 y hy)
        · exact List.mem_append_right _ hy
      · exact lift r (List.mem_cons_of_mem _ hr)
    · rw [List.mem_singleton.mp hr, hl]
      exact ⟨by simp, by simp, fun y hy => List.mem_append_right _ hy⟩
theorem wordAt_lt (ps : List Int) (j : Int) : wordAt ps j < 2 ^ 64 := by
  refine Nat.lt_pow_two_of_testBit _ fun i hi => ?_
  rw [Bool.eq_false_iff]
  intro q
  obtain ⟨p, _, _, e⟩ := (wordAt_bit ps j i).mp q
  have h1 := Int.fmod_nonneg_of_pos p (show (0 : Int) < 64 by decide)
  have h2 := Int.fmod_lt_of_pos p (show (0 : Int) < 64 by decide)
  lia
theorem wordsTo_mem {ps : List Int} {n : Nat} {x : Int} (h : x ∈ wordsTo ps n) : 0 ≤ x ∧ x < 18446744073709551616 := by
  unfold wordsTo at h
  obtain ⟨j, _, e⟩ := List.mem_map.mp h
  have := wordAt_lt ps j
  have e2 : (2 : Nat) ^ 64 = 18446744073709551616 := by decide
  rw [e2] at this
  lia
theorem wordsTo_len (ps : List Int) (n : Nat) : (wordsTo ps n).length = n := by unfold wordsTo; rw [List.length_map, List.length_range]
theorem mark_lt {r : Row} (h1 : r.1 ≤ 134217728) (h2 : r.2.length ≤ 134217728) : 0 ≤ mark r ∧ mark r < 18446744073709551616 := by
  unfold mark
  have e2 : (2 : Int) ^ 33 = 8589934592 := by decide
  rw [e2]
  lia
theorem told_bounds {ws : List Int} (hw : ∀ x ∈ ws, 0 ≤ x ∧ x < 18446744073709551616) (hl : ws.length ≤ 134217728) : ∀ x ∈ toldOf (rowsS ws), 0 ≤ x ∧ x < 18446744073709551616 := by
  intro x hx
  unfold toldOf at hx
  obtain ⟨r, hr, hx⟩ := List.mem_flatMap.mp hx
  have := rows_bounds ws r (List.mem_reverse.mp hr)
  rcases List.mem_cons.mp hx with e | hx
  · rw [e]; exact mark_lt (by lia) (by lia)
  · exact hw x (this.2.2 x hx)
theorem toldOf_len {R : List Row} {a b : Nat} (h : R.length ≤ a) (hb : ∀ r ∈ R, r.2.length ≤ b) : (toldOf R).length ≤ a * (b + 1) := by
  unfold toldOf
  have : ∀ (l : List Row), (∀ r ∈ l, r.2.length ≤ b) → (l.flatMap fun r => mark r :: r.2).length ≤ l.length * (b + 1) := by
    intro l
    induction l with
    | nil => intro _; simp
    | cons r l ih =>
      intro hl
      have h1 := ih fun q hq => hl q (List.mem_cons_of_mem _ hq)
      have h2 := hl r List.mem_cons_self
      rw [List.flatMap_cons, List.length_append, List.length_cons, List.length_cons, Nat.succ_mul]
      lia
  have h1 := this R.reverse fun r hr => hb r (List.mem_reverse.mp hr)
  rw [List.length_reverse] at h1
  exact Nat.le_trans h1 (Nat.mul_le_mul_right _ h)
end Mine
end

section
open PySem PySem.W PyProof.Rows PySem.Spec PySem.Calls
set_option Elab.async false
namespace Mine
/-- the highest of them, -1 of none -/
noncomputable def topOf (ps : List Int) : Int := ps.foldl max (-1)
theorem foldl_max_le (ps : List Int) : ∀ a, a ≤ ps.foldl max a ∧ (∀ p ∈ ps, p ≤ ps.foldl max a) ∧ (ps.foldl max a = a ∨ ps.foldl max a ∈ ps) := by
  induction ps with
  | nil => intro a; exact ⟨Int.le_refl _, fun p hp => (nomatch hp), .inl rfl⟩
  | cons p ps ih =>
    intro a
    rw [List.foldl_cons]
    obtain ⟨h1, h2, h3⟩ := ih (max a p)
    refine ⟨by lia, fun q hq => ?_, ?_⟩
    · rcases List.mem_cons.mp hq with e | hq
      · rw [e]; lia
      · exact h2 q hq
    · rcases h3 with e | e
      · rw [e]
        rcases Int.le_total a p with q | q
        · right; rw [Int.max_eq_right q]; exact List.mem_cons_self
        · left; rw [Int.max_eq_left q]
      · exact .inr (List.mem_cons_of_mem _ e)
theorem top_ge (ps : List Int) : -1 ≤ topOf ps := (foldl_max_le ps (-1)).1
theorem top_le {ps : List Int} {p : Int} (h : p ∈ ps) : p ≤ topOf ps := (foldl_max_le ps (-1)).2.1 p h
theorem top_mem {ps : List Int} (h0 : ∀ p ∈ ps, 0 ≤ p) (h : ps ≠ []) : topOf ps ∈ ps := by
  rcases (foldl_max_le ps (-1)).2.2 with e | e
  · obtain ⟨p, r, rfl⟩ := List.exists_cons_of_ne_nil h
    have h1 := h0 p List.mem_cons_self
    have h2 := top_le (ps := p :: r) List.mem_cons_self
    unfold topOf at h2
    lia
  · exact e
theorem top_lt {ps : List Int} {b : Int} (hb : 0 < b) (h : ∀ p ∈ ps, p < b) : topOf ps < b := by
  rcases (foldl_max_le ps (-1)).2.2 with e | e
  · unfold topOf; lia
  · exact h _ e
theorem top_eq {ps : List Int} {M : Int} (h : M ∈ [-1] ++ ps) (hM : ∀ a, a ∈ [-1] ++ ps → a ≤ M) : M = topOf ps := by
  have h1 := hM (-1) (by simp)
  have h2 : ∀ p ∈ ps, p ≤ M := fun p hp => hM p (by simp [hp])
  have h3 := top_ge ps
  rcases List.mem_append.mp h with h | h
  · rw [List.mem_singleton] at h
    rcases (foldl_max_le ps (-1)).2.2 with e | e
    · unfold topOf; lia
    · have := h2 _ e; unfold topOf at *; lia
  · have := top_le h
    rcases (foldl_max_le ps (-1)).2.2 with e | e
    · unfold topOf at *; lia
    · have := h2 _ e; unfold topOf at *; lia
theorem top_perm {ps qs : List Int} (h : ∀ p, p ∈ ps ↔ p ∈ qs) : topOf ps = topOf qs := by
  have key : ∀ {ps qs : List Int}, (∀ p, p ∈ ps → p ∈ qs) → topOf ps ≤ topOf qs := fun {ps qs} h => by
    rcases (foldl_max_le ps (-1)).2.2 with e | e
    · have := top_ge qs; unfold topOf at *; lia
    · exact top_le (h _ e)
  exact Int.le_antisymm (key fun p hp => (h p).mp hp) (key fun p hp => (h p).mpr hp)
/-- how many words -/
noncomputable def cnt (ps : List Int) : Nat := ((topOf ps + 64) / 64).toNat
noncomputable def toldP (ps : List Int) : List Int := toldOf (rowsS (wordsTo ps (cnt ps)))
noncomputable def octP (ps : List Int) : List Int := (BE 4 (topOf ps + 1) ++ BE 4 (toldP ps).length) ++ (toldP ps).flatMap (BE 8)
theorem at_cnt {ps ks : List Int} {n : Nat} (hk : ks.Pairwise (· < ·)) (h0 : ∀ p ∈ ps, 0 ≤ p) (hm : ∀ x, x ∈ ks ↔ ∃ p ∈ ps, p.fdiv 64 = x) (hn : (n : Int) = atOf ks ks.length) : n = cnt ps := by
  unfold cnt
  unfold atOf at hn
  by_cases hz : ps = []
  · subst hz
    have : ks = [] := by
      cases ks with
      | nil => rfl
      | cons k ks => obtain ⟨p, hp, _⟩ := (hm k).mp List.mem_cons_self; cases hp
    subst this
    have e : topOf [] = -1 := rfl
    rw [e]
    simp at hn
    lia
  · have ht := top_mem h0 hz
    have hkt : (topOf ps).fdiv 64 ∈ ks := (hm _).mpr ⟨_, ht, rfl⟩
    have hp : 0 < ks.length := List.length_pos_of_mem hkt
    rw [if_neg (by lia)] at hn
    obtain ⟨j, hj, ej⟩ := List.mem_iff_getElem.mp hkt
    have hlast : ks.getD (ks.length - 1) 0 ∈ ks := by
      rw [List.getD_eq_getElem?_getD, List.getElem?_eq_getElem (by lia)]; exact List.getElem_mem _
    obtain ⟨p, hp1, hp2⟩ := (hm _).mp hlast
    have h1 := top_le hp1
    have h2 := h0 p hp1
    have h3 := h0 _ ht
    rw [Int.fdiv_eq_ediv_of_nonneg _ (by decide)] at hp2 ej
    have h4 : ks[j] ≤ ks.getD (ks.length - 1) 0 := by
      rcases Nat.lt_or_ge j (ks.length - 1) with c | c
      · have := lt_get hk c (by lia)
        rw [List.getD_eq_getElem?_getD, List.getElem?_eq_getElem hj] at this
        simp only [Option.getD_some] at this
        lia
      · have : j = ks.length - 1 := by lia
        subst this
        rw [List.getD_eq_getElem?_getD, List.getElem?_eq_getElem hj]; exact Int.le_refl _
    lia
theorem cells_told_len {b : Nat} : ∀ {l : List Cell}, (∀ c ∈ l, c.ls.length ≤ b) → (l.flatMap fun c => mark (rowOf c) :: c.ls).length ≤ l.length * (b + 1)
  | [], _ => by simp
  | c :: l, h => by
    have h1 := cells_told_len (l := l) fun q hq => h q (List.mem_cons_of_mem _ hq)
    have h2 := h c List.mem_cons_self
    rw [List.flatMap_cons, List.length_append, List.length_cons, List.length_cons, Nat.succ_mul]
    lia
section
variable {prog : Program} {w : World} {A : Around} {E : Value → Shared → Prop} {s : Shared} {h₀ : Heap} {L la : Addr} {m : Str → Option Value} {news : List (Addr × Obj)} {us : List Value} {ps : List Int} {c : Nat}
theorem j_top {Q : Value → Shared → Prop} (F : Fr h₀ L s.heap m) (N : News h₀ L s.heap news) (hm : (la, listOf us.toArray c) ∈ news) (hi : IntsAre us ([-1] ++ ps)) (hh : A.handled = none)
    (h : ∀ h' (t : Tok) tk, Fr h₀ L h' m → News h₀ L h' news → Q (.int (topOf ps) t) { s with heap := h', toks := tk }) : wpAny (model prog w) A (call (.builtin "max") [.ref la]) Q E s :=
  kso_max F N (led_list N hm) hi (by simp) hh fun h' M t tk F' N' h1 h2 => by rw [top_eq h1 h2]; exact h h' t tk F' N'
end
end Mine
end

section
open PySem PySem.W PyProof.Rows PySem.Spec PySem.Calls
set_option Elab.async false
namespace Mine
theorem wordsTo_get (ps : List Int) {n j : Nat} (h : j < n) : (wordsTo ps n).getD j 0 = (wordAt ps (j : Int) : Int) := by
  unfold wordsTo
  rw [List.getD_eq_getElem?_getD, List.getElem?_map, List.getElem?_range h]; rfl
theorem wordsTo_nil (n : Nat) : List.replicate n (0 : Int) = wordsTo [] n := by
  refine List.ext_getElem (by simp [wordsTo]) fun i h1 h2 => ?_
  simp [wordsTo, wordAt]
theorem wordsTo_set {pre : List Int} {n : Nat} {p : Int} (h0 : 0 ≤ p) (hj : p.fdiv 64 < n) :
    (wordsTo pre n).set (p.fdiv 64).toNat (Builtin.bitOr ((wordsTo pre n).getD (p.fdiv 64).toNat 0) (1 * 2 ^ (p.fmod 64).toNat)) = wordsTo (pre ++ [p]) n := by
  have hd : p.fdiv 64 = p / 64 := Int.fdiv_eq_ediv_of_nonneg _ (by decide)
  have hjn : (p.fdiv 64).toNat < n := by lia
  have hjj : (((p.fdiv 64).toNat : Nat) : Int) = p.fdiv 64 := by lia
  rw [wordsTo_get pre hjn]
  have e2 : (1 : Int) * 2 ^ (p.fmod 64).toNat = ((2 ^ (p.fmod 64).toNat : Nat) : Int) := by
    rw [Int.one_mul]; norm_cast
  rw [e2, bitOr_nat]
  refine List.ext_getElem (by simp [wordsTo]) fun i h1 h2 => ?_
  have hi : i < n := by simpa [wordsTo] using h2
  rw [List.getElem_set]
  have eq2 : (wordsTo (pre ++ [p]) n)[i] = (wordAt (pre ++ [p]) (i : Int) : Int) := by simp [wordsTo]
  rw [eq2, wordAt_snoc]
  by_cases e : (p.fdiv 64).toNat = i
  · rw [if_pos e, if_pos (by rw [← e]; exact hjj.symm)]
    rw [← e]
  · rw [if_neg e, if_neg (by lia)]
    simp [wordsTo]
theorem wordsTo_congr {ps qs : List Int} (h : ∀ p, p ∈ ps ↔ p ∈ qs) (n : Nat) : wordsTo ps n = wordsTo qs n := by
  unfold wordsTo
  exact List.map_congr_left fun j _ => by rw [wordAt_congr h]
theorem cnt_fdiv (xs : List Int) : (topOf xs + 1 + 63).fdiv 64 = (cnt xs : Int) := by
  have := top_ge xs
  unfold cnt
  rw [Int.fdiv_eq_ediv_of_nonneg _ (by decide)]
  lia
theorem cnt_bound {xs : List Int} {p : Int} (h0 : 0 ≤ p) (h : p ∈ xs) : p.fdiv 64 < (cnt xs : Int) := by
  have := top_le h
  unfold cnt
  rw [Int.fdiv_eq_ediv_of_nonneg _ (by decide)]
  lia
end Mine
namespace Mine
theorem told_addW (R : List Row) (x : Int) : (toldOf (addW R x)).length ≤ (toldOf R).length + 2 := by
  unfold addW
  split
  · split
    · rw [toldOf_cons, toldOf_cons]; simp
    · rw [toldOf_cons]; simp
  · split
    · rw [toldOf_cons, toldOf_cons]; simp; lia
    · rw [toldOf_cons]; simp
theorem told_len (ws : List Int) : (toldOf (rowsS ws)).length ≤ 2 * ws.length := by
  refine list_snoc_induction (P := fun ws => (toldOf (rowsS ws)).length ≤ 2 * ws.length) (by simp [rowsS, toldOf]) (fun l x h => ?_) ws
  have e : rowsS (l ++ [x]) = addW (rowsS l) x := by unfold rowsS; rw [List.foldl_append]; rfl
  rw [e]
  have := told_addW (rowsS l) x
  simp only [List.length_append, List.length_cons, List.length_nil]
  lia
end Mine
end

section
open PySem PySem.W PyProof.Rows PySem.Spec PySem.Calls
set_option Elab.async false
namespace Mine
/-! octets back to numbers -/
theorem value_snoc (l : List Int) (x : Int) : KFB.value (l ++ [x]) = KFB.value l * 256 + x := by
  unfold KFB.value; rw [List.foldl_append]; rfl
theorem value_BE : ∀ (k : Nat) (x : Int), 0 ≤ x → x < 256 ^ k → KFB.value (BE k x) = x
  | 0, x, h0, h1 => by
    have : x = 0 := by rw [Int.pow_zero] at h1; lia
    rw [this]; rfl
  | k + 1, x, h0, h1 => by
    have e : BE (k + 1) x = BE k (x / 256) ++ [x % 256] := by
      unfold BE
      show ((x % 256) :: KTBy.little k (x / 256)).reverse = _
      rw [List.reverse_cons]
    rw [e, value_snoc, value_BE k (x / 256) (by lia) ?_]
    · lia
    · rw [Int.pow_succ] at h1
      lia
theorem value4 {x : Int} (h0 : 0 ≤ x) (h1 : x < 4294967296) : KFB.value (BE 4 x) = x := value_BE 4 x h0 (by simpa using h1)
theorem value8 {x : Int} (h0 : 0 ≤ x) (h1 : x < 18446744073709551616) : KFB.value (BE 8 x) = x := value_BE 8 x h0 (by simpa using h1)
theorem flat_at (l : List Int) (t : List Int) : ∀ {i : Nat} (h : i < l.length), ((l.flatMap (BE 8) ++ t).drop (8 * i)).take 8 = BE 8 l[i] := by
  induction l with
  | nil => intro i h; simp at h
  | cons a l ih =>
    intro i h
    rw [List.flatMap_cons, List.append_assoc]
    cases i with
    | zero =>
      rw [Nat.mul_zero, List.drop_zero, List.take_left' (BE_len 8 a)]; rfl
    | succ i =>
      have e : 8 * (i + 1) = 8 + 8 * i := by lia
      have e2 : ((BE 8 a) ++ (l.flatMap (BE 8) ++ t)).drop (8 + 8 * i) = (l.flatMap (BE 8) ++ t).drop (8 * i) := by
        rw [← List.drop_drop, List.drop_left' (BE_len 8 a)]
      rw [e, e2, ih (by simpa using h)]; rfl
/-! rows back to words -/
noncomputable def expand (r : Row) : List Int := List.replicate r.1 0 ++ r.2
noncomputable def expandS (R : List Row) : List Int := R.flatMap expand
theorem expandS_addW (R : List Row) (x : Int) : expandS (addW R x).reverse = expandS R.reverse ++ [x] := by
  unfold addW
  by_cases hx : x = 0
  · rw [if_pos hx]
    match R with
    | [] => subst hx; rfl
    | (z, []) :: R' =>
      simp only [List.reverse_cons, expandS, List.flatMap_append, List.flatMap_cons, List.flatMap_nil, expand, List.append_nil, List.append_assoc]
      rw [hx, List.replicate_succ']
    | (z, l :: ls) :: R' =>
      simp only [List.reverse_cons, expandS, List.flatMap_append, List.flatMap_cons, List.flatMap_nil, expand, List.append_nil, List.append_assoc]
      rw [hx]; rfl
  · rw [if_neg hx]
    match R with
    | [] => rfl
    | (z, ls) :: R' =>
      simp only [List.reverse_cons, expandS, List.flatMap_append, List.flatMap_cons, List.flatMap_nil, expand, List.append_nil, List.append_assoc]
theorem expandS_rows (ws : List Int) : expandS (rowsS ws).reverse = ws := by
  refine list_snoc_induction (P := fun ws => expandS (rowsS ws).reverse = ws) rfl (fun l x h => ?_) ws
  have e : rowsS (l ++ [x]) = addW (rowsS l) x := by unfold rowsS; rw [List.foldl_append]; rfl
  rw [e, expandS_addW, h]
/-- where the row i opens: in what is told, and in the words -/
noncomputable def tOff (R : List Row) (i : Nat) : Nat := ((R.take i).flatMap fun r => mark r :: r.2).length
noncomputable def wOff (R : List Row) (i : Nat) : Nat := (expandS (R.take i)).length
theorem tOff_succ {R : List Row} {i : Nat} {r : Row} (h : R[i]? = some r) : tOff R (i + 1) = tOff R i + 1 + r.2.length := by
  unfold tOff
  rw [List.take_add_one, h, List.flatMap_append, List.length_append]
  simp; lia
theorem wOff_succ {R : List Row} {i : Nat} {r : Row} (h : R[i]? = some r) : wOff R (i + 1) = wOff R i + r.1 + r.2.length := by
  unfold wOff expandS
  rw [List.take_add_one, h, List.flatMap_append, List.length_append]
  simp [expand]; lia
theorem split_at {R : List Row} {i : Nat} {r : Row} (h : R[i]? = some r) : R = R.take i ++ r :: R.drop (i + 1) := by
  obtain ⟨hi, e⟩ := List.getElem?_eq_some_iff.mp h
  rw [← e, List.getElem_cons_drop, List.take_append_drop]
theorem told_split {R : List Row} {i : Nat} {r : Row} (h : R[i]? = some r) : (R.flatMap fun r => mark r :: r.2) = ((R.take i).flatMap fun r => mark r :: r.2) ++ ((mark r :: r.2) ++ (R.drop (i + 1)).flatMap fun r => mark r :: r.2) := by
  conv => lhs; rw [split_at h, List.flatMap_append, List.flatMap_cons]
theorem word_split {R : List Row} {i : Nat} {r : Row} (h : R[i]? = some r) : expandS R = expandS (R.take i) ++ (expand r ++ expandS (R.drop (i + 1))) := by
  unfold expandS
  conv => lhs; rw [split_at h, List.flatMap_append, List.flatMap_cons]
theorem told_mark {R : List Row} {i : Nat} {r : Row} (h : R[i]? = some r) : (R.flatMap fun r => mark r :: r.2).getD (tOff R i) 0 = mark r := by
  rw [told_split h]
  unfold tOff
  rw [List.getD_eq_getElem?_getD, List.getElem?_append_right (Nat.le_refl _), Nat.sub_self]; rfl
theorem told_lit {R : List Row} {i k : Nat} {r : Row} (h : R[i]? = some r) (hk : k < r.2.length) : (R.flatMap fun r => mark r :: r.2).getD (tOff R i + 1 + k) 0 = r.2.getD k 0 := by
  rw [told_split h]
  unfold tOff
  rw [List.getD_eq_getElem?_getD, List.getElem?_append_right (by lia), show ((R.take i).flatMap fun r => mark r :: r.2).length + 1 + k - ((R.take i).flatMap fun r => mark r :: r.2).length = k + 1 by lia]
  rw [List.cons_append, List.getElem?_cons_succ, List.getElem?_append_left hk, List.getD_eq_getElem?_getD]
theorem told_bound {R : List Row} {i : Nat} {r : Row} (h : R[i]? = some r) : tOff R i + 1 + r.2.length ≤ (R.flatMap fun r => mark r :: r.2).length := by
  rw [told_split h]
  unfold tOff
  simp only [List.length_append, List.length_cons]; lia
theorem word_zero {R : List Row} {i k : Nat} {r : Row} (h : R[i]? = some r) (hk : k < r.1) : (expandS R).getD (wOff R i + k) 0 = 0 := by
  rw [word_split h]
  unfold wOff
  rw [List.getD_eq_getElem?_getD, List.getElem?_append_right (by lia), Nat.add_sub_cancel_left]
  unfold expand
  rw [List.append_assoc, List.getElem?_append_left (by simpa using hk), List.getElem?_replicate_of_lt hk]; rfl
theorem word_lit {R : List Row} {i k : Nat} {r : Row} (h : R[i]? = some r) (hk : k < r.2.length) : (expandS R).getD (wOff R i + r.1 + k) 0 = r.2.getD k 0 := by
  rw [word_split h]
  unfold wOff
  rw [List.getD_eq_getElem?_getD, List.getElem?_append_right (by lia), show (expandS (R.take i)).length + r.1 + k - (expandS (R.take i)).length = r.1 + k by lia]
  unfold expand
  rw [List.append_assoc, List.getElem?_append_right (by simp), List.length_replicate, Nat.add_sub_cancel_left, List.getElem?_append_left hk, List.getD_eq_getElem?_getD]
theorem word_bound {R : List Row} {i : Nat} {r : Row} (h : R[i]? = some r) : wOff R i + r.1 + r.2.length ≤ (expandS R).length := by
  rw [word_split h]
  unfold wOff expand
  simp only [List.length_append, List.length_replicate]; lia
theorem tOff_end {R : List Row} : tOff R R.length = (R.flatMap fun r => mark r :: r.2).length := by unfold tOff; rw [List.take_length]
theorem wOff_end {R : List Row} : wOff R R.length = (expandS R).length := by unfold wOff; rw [List.take_length]
/-! a marker's parts -/
theorem mark_bit (r : Row) : Builtin.bitAnd (mark r) 1 = 0 := by
  rw [bitAnd_m1]; unfold mark
  have e : (2 : Int) ^ 33 = 8589934592 := by decide
  rw [e]; lia
theorem mark_run {r : Row} (h : r.1 < 4294967296) : Builtin.bitAnd ((mark r).fdiv (2 ^ 1)) 4294967295 = r.1 := by
  rw [bitAnd_m32, Int.fdiv_eq_ediv_of_nonneg _ (by decide)]; unfold mark
  have e : (2 : Int) ^ 33 = 8589934592 := by decide
  rw [e]; lia
theorem mark_lits {r : Row} (h : r.1 < 4294967296) : (mark r).fdiv (2 ^ 33) = r.2.length := by
  rw [Int.fdiv_eq_ediv_of_nonneg _ (by decide)]; unfold mark
  have e : (2 : Int) ^ 33 = 8589934592 := by decide
  rw [e]; lia
theorem bitAnd_nat (a b : Nat) : Builtin.bitAnd (a : Int) (b : Int) = ((a &&& b : Nat) : Int) := by
  unfold Builtin.bitAnd
  rw [decide_eq_true (show (0 : Int) ≤ (a : Int) by lia), decide_eq_true (show (0 : Int) ≤ (b : Int) by lia)]
  dsimp only
  rw [Int.toNat_natCast, Int.toNat_natCast]
theorem bit_test (a i : Nat) : Builtin.bitAnd (a : Int) (1 * 2 ^ i) ≠ 0 ↔ a.testBit i = true := by
  have e2 : (1 : Int) * 2 ^ i = ((2 ^ i : Nat) : Int) := by
    rw [Int.one_mul]; norm_cast
  rw [e2, bitAnd_nat]
  have key : (a &&& 2 ^ i) ≠ 0 ↔ a.testBit i = true := by
    cases h : a.testBit i with
    | true =>
      refine ⟨fun _ => rfl, fun _ q => ?_⟩
      have : (a &&& 2 ^ i).testBit i = true := by rw [Nat.testBit_and, h, Nat.testBit_two_pow_self]; rfl
      rw [q] at this; simp at this
    | false =>
      refine ⟨fun q => absurd (Nat.eq_of_testBit_eq fun j => ?_) q, fun q => by simp at q⟩
      rw [Nat.testBit_and, Nat.testBit_two_pow, Nat.zero_testBit]
      by_cases e : i = j
      · subst e; rw [h]; rfl
      · simp [e]
  rw [← key]
  lia
end Mine
end

section
open PySem PySem.W PyProof.Rows PySem.Spec PySem.Calls
set_option Elab.async false
namespace Mine
theorem nodup_sub_len : ∀ {xs ps : List Int}, xs.Nodup → (∀ p ∈ xs, p ∈ ps) → xs.length ≤ ps.length
  | [], _, _, _ => Nat.zero_le _
  | x :: xs, ps, hn, hs => by
    have hx := hs x List.mem_cons_self
    rw [List.nodup_cons] at hn
    have := nodup_sub_len (xs := xs) (ps := ps.erase x) hn.2 fun p hp => (List.mem_erase_of_ne (fun e => hn.1 (by rw [← e]; exact hp))).mpr (hs p (List.mem_cons_of_mem _ hp))
    rw [List.length_erase_of_mem hx] at this
    have hpos := List.length_pos_of_mem hx
    rw [List.length_cons]; lia
theorem div_mod {p : Int} {j i : Nat} (hi : i < 64) (h1 : p.fdiv 64 = (j : Int)) (h2 : (p.fmod 64).toNat = i) : p = ((64 * j + i : Nat) : Int) := by
  have e1 : p.fdiv 64 = p / 64 := Int.fdiv_eq_ediv_of_nonneg _ (by decide)
  have e2 : p.fmod 64 = p % 64 := Int.fmod_eq_emod_of_nonneg _ (by decide)
  rw [e1] at h1; rw [e2] at h2
  lia
theorem bit_mem {ps : List Int} {j i : Nat} (hi : i < 64) : (wordAt ps (j : Int)).testBit i = true ↔ ((64 * j + i : Nat) : Int) ∈ ps := by
  rw [wordAt_bit]
  constructor
  · rintro ⟨p, hp, h1, h2⟩
    rw [← div_mod hi h1 h2]; exact hp
  · intro h
    refine ⟨_, h, ?_, ?_⟩
    · rw [Int.fdiv_eq_ediv_of_nonneg _ (by decide)]; lia
    · rw [Int.fmod_eq_emod_of_nonneg _ (by decide)]; lia
theorem run_skip {ps : List Int} {R : List Row} {n i : Nat} {r : Row} (hR : expandS R = wordsTo ps n) (h : R[i]? = some r) {p : Int} (hp : p ∈ ps) (h0 : 0 ≤ p) :
    p < 64 * ((wOff R i : Int) + r.1) ↔ p < 64 * (wOff R i : Int) := by
  constructor
  · intro h1
    apply Decidable.byContradiction
    intro h2
    have hb := word_bound h
    rw [hR, wordsTo_len] at hb
    have e1 : p.fdiv 64 = p / 64 := Int.fdiv_eq_ediv_of_nonneg _ (by decide)
    obtain ⟨j, hj⟩ : ∃ j : Nat, p / 64 = (j : Int) := ⟨(p / 64).toNat, by lia⟩
    have hk := word_zero h (k := j - wOff R i) (by lia)
    rw [hR, show wOff R i + (j - wOff R i) = j by lia, wordsTo_get ps (by lia)] at hk
    exact wordAt_ne (ps := ps) (j := (j : Int)) ⟨p, hp, by rw [e1, hj]⟩ (by lia)
  · intro h1; lia
/-- the row's literal k, as told and as a word -/
theorem lit_told {ps : List Int} {R : List Row} {n i k : Nat} {r : Row} (hR : expandS R = wordsTo ps n) (h : R[i]? = some r) (hk : k < r.2.length) :
    (R.flatMap fun r => mark r :: r.2).getD (tOff R i + 1 + k) 0 = (wordAt ps ((wOff R i + r.1 + k : Nat) : Int) : Int) := by
  have hb := word_bound h
  rw [hR, wordsTo_len] at hb
  rw [told_lit h hk, ← word_lit h hk, hR, wordsTo_get ps (by lia)]
theorem step_bit {ps xs : List Int} {j i : Nat} (hi : i < 64) (hx : ∀ p, p ∈ xs ↔ p ∈ ps ∧ p < 64 * (j : Int) + i) (hb : ((64 * j + i : Nat) : Int) ∈ ps) : ∀ p, p ∈ addTo xs (64 * (j : Int) + i) ↔ p ∈ ps ∧ p < 64 * (j : Int) + (i + 1 : Nat) := by
  intro p
  have e : ((64 * j + i : Nat) : Int) = 64 * (j : Int) + i := by lia
  rw [e] at hb
  have hm : p ∈ addTo xs (64 * (j : Int) + i) ↔ p ∈ xs ∨ p = 64 * (j : Int) + i := by
    unfold addTo
    split
    · constructor
      · exact .inl
      · rintro (h | h)
        · exact h
        · rw [h]; assumption
    · simp
  rw [hm, hx]
  constructor
  · rintro (⟨h1, h2⟩ | h)
    · exact ⟨h1, by lia⟩
    · rw [h]; exact ⟨hb, by lia⟩
  · rintro ⟨h1, h2⟩
    by_cases q : p = 64 * (j : Int) + i
    · exact .inr q
    · exact .inl ⟨h1, by lia⟩
theorem step_nobit {ps xs : List Int} {j i : Nat} (hx : ∀ p, p ∈ xs ↔ p ∈ ps ∧ p < 64 * (j : Int) + i) (hb : ((64 * j + i : Nat) : Int) ∉ ps) : ∀ p, p ∈ xs ↔ p ∈ ps ∧ p < 64 * (j : Int) + (i + 1 : Nat) := by
  intro p
  have e : ((64 * j + i : Nat) : Int) = 64 * (j : Int) + i := by lia
  rw [e] at hb
  rw [hx]
  constructor
  · rintro ⟨h1, h2⟩; exact ⟨h1, by lia⟩
  · rintro ⟨h1, h2⟩
    by_cases q : p = 64 * (j : Int) + i
    · rw [q] at h1; exact absurd h1 hb
    · exact ⟨h1, by lia⟩
end Mine
end

section
open PySem PySem.W PyProof.Rows PySem.Spec PySem.Calls
set_option Elab.async false
namespace Mine
section
variable {prog : Program} {w : World} {A : Around} {E : Value → Shared → Prop} {s : Shared} {h₀ : Heap} {L sa : Addr} {m : Str → Option Value} {news : List (Addr × Obj)} {so : Obj} {xs : List Int}
theorem noBool_set' : typeLookup (.type "set") "__bool__" = pure none := by rw [typeLookup_type, builtinLookup_eq_fast]; kernel_rfl
theorem set_truth {Q : Bool → Shared → Prop} (N : News h₀ L s.heap news) (hm : (sa, so) ∈ news) (hP : SetP w so xs)
    (h : ∀ tk, Q (!xs.isEmpty) { s with toks := tk }) : wpAny (model prog w) A (truthy (.ref sa)) Q E s := by
  have hlen := hP.length
  obtain ⟨l, ⟨ep, t, hc, hd, hn, hb, hf, hw⟩, hp⟩ := hP
  have ho := (N _ hm).1
  have hT : s.TypeIs (.ref sa) "set" := ⟨so, ho, hc.1⟩
  have hf' : t.fits (l.map ent).toArray.size = true := by simpa using hf
  have hsz : (l.map ent).toArray.size = xs.length := by simp [← hp.length_eq]
  have hfit : ((l.map ent).toArray.size : Int) < 2 ^ 63 := by
    rw [hsz]
    have : xs.length ≤ sizeLine := set_size_le hlen
    rw [sizeLine_eq] at this; omega
  have hne : (((l.map ent).toArray.size : Int) != 0) = !xs.isEmpty := by
    rw [hsz]
    cases xs with
    | nil => rfl
    | cons x xs =>
      have : (((x :: xs).length : Nat) : Int) ≠ 0 := by simp only [List.length_cons]; omega
      exact bne_iff_ne.mpr this
  have key : wpAny (model prog w) A (runValue (.builtin "len" ⟨[.ref sa], []⟩)) (fun r s' => ∃ tk, r = .int (l.map ent).toArray.size tk ∧ Q (!xs.isEmpty) s') E s := by
    refine wpAny_runValue (codeAny_builtin entry_len ?_)
    rw [Around.under_plainId plain_len _]
    exact wpAny_mono (wpAny_len_body_set (Q := fun r s' => ∃ tk, r = .int (l.map ent).toArray.size tk ∧ Q (!xs.isEmpty) s') ho hc hd hf' hfit ⟨_, rfl, h _⟩)
      (fun fin s' h' => by obtain ⟨r, rfl, hq⟩ := h'; exact hq) fun _ _ e => e
  unfold truthy
  first
    | refine wpAny_bind (wpAny_callSpecial?_none (name := Str.ofString "__bool__") hT noBool_set' ?_)
    | refine wpAny_bind (wpAny_pure (wpAny_bind (wpAny_callSpecial?_none (name := Str.ofString "__bool__") hT noBool_set' ?_)))
  first
    | refine wpAny_bind (wpAny_specialOf (name := Str.ofString "__len__") hT F.slot_set_len.lookup ?_)
    | refine wpAny_bind (wpAny_pure (wpAny_bind (wpAny_specialOf (name := Str.ofString "__len__") hT F.slot_set_len.lookup ?_)))
  first
    | exact wpAny_bind (wpAny_mono key (fun r s' h' => by obtain ⟨_, rfl, hq⟩ := h'; exact wpAny_pure (hne ▸ hq)) fun _ _ e => e)
    | exact wpAny_bind (wpAny_pure (wpAny_bind (wpAny_mono key (fun r s' h' => by obtain ⟨_, rfl, hq⟩ := h'; exact wpAny_pure (hne ▸ hq)) fun _ _ e => e)))

theorem set_max {Q : Value → Shared → Prop} (hh : A.handled = none) (F : Fr h₀ L s.heap m) (N : News h₀ L s.heap news) (hm : (sa, so) ∈ news) (hP : SetP w so xs) (hne : xs ≠ []) (h0 : ∀ x ∈ xs, 0 ≤ x)
    (h : ∀ h' t tk d, Fr h₀ L h' m → News h₀ L h' news → Q (.int (topOf xs) t) { s with heap := h', toks := tk, drawn := d }) :
    wpAny (model prog w) A (call (.builtin "max") [.ref sa]) Q E s := by
  obtain ⟨l, hI, hp⟩ := hP
  refine call_max_walk (pyIter_set (N _ hm).1 hI fun I fp St l' h' d hp' W hst hk hfp hI' hIf hIs hfs => ?_)
  have hlen : l'.length = l.length := hp'.length_eq
  have hlx : l.length = xs.length := by rw [← hp.length_eq, List.length_map]
  have hpos : 0 < l.length := by
    rw [hlx]; exact List.length_pos_iff.mpr hne
  let val : Nat → Int := fun i => ((l'[i]?).map (fun p : Int × Tok => p.1)).getD 0
  have hval : ∀ i v, PAt l' i v → ∃ t, v = .int (val i) t := by
    rintro i v ⟨p, hpi, rfl⟩
    exact ⟨p.2, by show Value.int p.1 p.2 = Value.int (((l'[i]?).map (fun p : Int × Tok => p.1)).getD 0) p.2; rw [hpi]; rfl⟩
  refine ⟨I, fp, [I], l.length, PAt l', St, _, rfl, W A.in1 hh, hst, hfs, hpos, CmpOf.ints_gt val hval, fun v h'' tk hP hk2 => ?_⟩
  obtain ⟨t, rfl⟩ := hval _ _ hP
  obtain ⟨h1, h2⟩ := argBest_gt val (l.length - 1)
  have hmem : ∀ i, i < l.length → val i ∈ xs := fun i hi => by
    have hi' : i < l'.length := by omega
    refine (hp.mem_iff).mp (List.mem_map.mpr ⟨l'[i], hp'.mem_iff.mp (List.getElem_mem hi'), ?_⟩)
    show l'[i].1 = ((l'[i]?).map (fun p : Int × Tok => p.1)).getD 0
    rw [List.getElem?_eq_getElem hi']; rfl
  have htop : val (argBest (fun i j => decide (val i > val j)) (l.length - 1)) = topOf xs := by
    refine top_eq (List.mem_append_right _ (hmem _ (by omega))) fun a ha => ?_
    rcases List.mem_append.mp ha with ha | ha
    · rw [List.mem_singleton.mp ha]
      have := h0 _ (hmem (argBest (fun i j => decide (val i > val j)) (l.length - 1)) (by omega))
      omega
    · obtain ⟨p, hpl, rfl⟩ := List.mem_map.mp ((hp.mem_iff).mpr ha)
      obtain ⟨i, hi, rfl⟩ := List.mem_iff_getElem.mp ((hp'.mem_iff).mpr hpl)
      have := h2 i (by omega)
      have e : val i = l'[i].1 := by
        show ((l'[i]?).map (fun p : Int × Tok => p.1)).getD 0 = _
        rw [List.getElem?_eq_getElem hi]; rfl
      rw [← e]; exact this
  rw [htop]
  have hk3 : ∀ b o, s.heap.get? b = some o → h''.get? b = some o := fun b o e => by
    refine hk2 b o (fun hb => ?_) (hk b o e)
    rw [List.mem_singleton.mp hb] at e
    exact absurd (Heap.lt_size e) (Nat.not_lt.mpr hI')
  exact h _ _ _ _ (fr_grow F hk3) (news_grow N hk3)
end
end Mine
end

section
open PySem PySem.W PyProof.Rows PySem.Spec PySem.Calls
set_option Elab.async false
namespace Mine
section
variable {prog : Program} {w : World} {A : Around} {E : Value → Shared → Prop} {s : Shared}
theorem int_no_bytes : typeLookup (.type "int") "__bytes__" = pure none := by rw [typeLookup_type, builtinLookup_eq_fast]; kernel_rfl
theorem bytes12 {t : Tok} {Q : Value → Shared → Prop} (hh : A.handled = none)
    (hQ : ∀ b t k, KBw.bInts b = List.replicate 12 0 → Q (.bytes b t) { s with toks := k }) :
    codeAny (model prog w) A (.call (.builtin "bytes.__new__") ⟨[.type "bytes", .int 12 t], []⟩) (wants Q E) s := by
  refine codeAny_of_tree ?_
  show wpAny _ A.in1 (do checkBuiltinCall "bytes.__new__" ⟨[.type "bytes", .int 12 t], []⟩; again (.builtin "bytes.__new__" ⟨[.type "bytes", .int 12 t], []⟩)) _ _ s
  refine wpAny_bind (wpAny_of_eq (F.bm_newCall _) (wpAny_pure ⟨plainId_quiet F.bm_plain _, codeAny_builtin F.bm_entry ?_⟩))
  rw [Around.under_plainId F.bm_plain _]
  have hT : s.TypeIs (.int 12 t) "int" := typeIs_int _ _ _
  unfold Builtin.«bytes.__new__»
  refine wpAny_bind (wpAny_of_eq (a := true) rfl ?_)
  refine bm_if_false rfl ?_
  refine wpAny_bind (wpAny_of_eq F.bm_sub ?_)
  refine bm_if_false rfl ?_
  refine wpAny_bind (wpAny_of_eq (F.bm_bind _) ?_)
  refine wpAny_bind (wpAny_of_eq (a := ()) rfl ?_)
  refine wpAny_bind (wpAny_of_eq (a := ()) rfl ?_)
  refine bm_if_false rfl ?_
  refine wpAny_bind (wpAny_specialOf hT int_no_bytes ?_)
  refine wpAny_bind (wpAny_of_eq (a := false) rfl ?_)
  refine bm_if_false rfl ?_
  refine wpAny_bind (wpAny_specialOf hT F.slot_int_index.lookup ?_)
  refine bm_if_false rfl ?_
  refine wpAny_bind (wpAny_attempt (wpAny_of_eq (a := (12 : Int)) rfl ?_))
  dsimp only
  refine bm_if_false (by decide) ?_
  rw [if_neg (by decide : ¬ ((12 : Int) < 0)), if_neg (by decide : ¬ ((12 : Int) > 2 ^ 63 - 34))]
  refine bm_if_false (by decide +kernel) ?_
  refine wpAny_bind (wpAny_rule ?_)
  refine wpAny_bind (wpAny_mkBytes ?_ (by decide +kernel))
  show wpAny _ _ (if (Value.type "bytes" == Value.type "bytes") = true then _ else _) _ _ _
  refine bm_if_true (by decide) ?_
  have e : KBw.bInts (Array.replicate 12 0) = List.replicate 12 0 := by decide +kernel
  first
    | exact wpAny_pure (hQ _ _ _ e)
    | exact wpAny_bind (wpAny_pure (wpAny_pure (hQ _ _ _ e)))
theorem j_bytes12 {t : Tok} {Q : Value → Shared → Prop} (hh : A.handled = none)
    (hQ : ∀ b t k, KBw.bInts b = List.replicate 12 0 → Q (.bytes b t) { s with toks := k }) : wpAny (model prog w) A (call (.type "bytes") [.int 12 t]) Q E s := by
  refine callType_codes (Q₁ := fun obj s₁ => s₁.TypeIs obj "bytes" ∧ Q obj s₁) F.bm_called (F.bm_typeCall _) F.entry_object_init
    (bytes12 hh fun b t k hk => ⟨PySem.W.typeIs_bytes _ _ _, hQ b t k hk⟩) fun obj s₁ h₁ => ?_
  exact ⟨h₁.1, F.args_object_init_2 obj _, object_init_meets F.bm_called.init.lookup F.bm_called.made (by decide) prog w A.in1 _ s₁ ⟨h₁.1, rfl, h₁.2⟩⟩
theorem ints_rep (t : Tok) : ∀ n, IntsAre (List.replicate n (Value.int 0 t)) (List.replicate n 0)
  | 0 => .nil
  | n + 1 => .cons 0 t (ints_rep t n)
theorem flat_rep {α : Type} (v : α) : ∀ n, (List.replicate n [v]).flatten = List.replicate n v
  | 0 => rfl
  | n + 1 => by rw [List.replicate_succ, List.flatten_cons, flat_rep v n, List.replicate_succ]; rfl
theorem j_mul0 {h₀ : Heap} {L l : Addr} {m : Str → Option Value} {news : List (Addr × Obj)} {c : Nat} {x : Int} {t u : Tok} {Q : Value → Shared → Prop} (Fm : Fr h₀ L s.heap m) (N : News h₀ L s.heap news) (hm : (l, listOf [Value.int 0 t].toArray c) ∈ news) (hhi : x ≤ 1048576) (h0 : 0 ≤ x)
    (h : ∀ D h', Fr h₀ L h' m → News h₀ L h' ((D, listOf (List.replicate x.toNat (Value.int 0 t)).toArray 0) :: news) → (∀ p ∈ news, p.1 < D) → IntsAre (List.replicate x.toNat (Value.int 0 t)) (List.replicate x.toNat 0) → Q (.ref D) { s with heap := h' }) : wpAny (model prog w) A (binaryOp .Mult (.ref l) (.int x u)) Q E s := by
  have ho := (N _ hm).1
  have hsz' : [Value.int 0 t].toArray.size * x.toNat ≤ 1048576 := by simp; lia
  refine wpAny_binaryOp_repeat_ref (T := "list") (U := "int") (by decide) ⟨_, ho, rfl⟩ (fun s' => typeIs_int s' x u) noFill_list_mul F.fills_int_mul F.slot_int_rmul repeat_list F.slot_int_index.lookup
    (call_meets F.slot_int_rmul (typeIs_int s x u) F.entry_int_rmul (F.args_int_rmul_2 _ _) (lm_int_rmul_list_any x u l [Value.int 0 t].toArray c none #[])
      ⟨ho, rfl, ⟨_, ho, rfl⟩, call_meets F.slot_list_mul ⟨_, ho, rfl⟩ F.entry_list_mul (F.args_list_mul_2 _ _)
        (lm_list_mul_any l [Value.int 0 t].toArray c none #[] x u (by simp [Builtin.List.listFitsIndex]; lia) (by lia) (by simp [Builtin.List.listTooLong, sizeLine]; lia))
        ⟨ho, ?_⟩⟩)
  have N' := News.push Fm N { cls := Value.type "list", data := Data.seq (List.foldl (fun x1 x2 => x1 ++ x2) #[] (List.replicate (if [Value.int 0 t].toArray.isEmpty = true then 0 else x.toNat) [Value.int 0 t].toArray)) }
  rw [listMul_foldl_if, flat_rep] at N'
  rw [listMul_foldl_if, flat_rep]
  exact h _ _ (Fm.push _) N' (fun p hp => Heap.lt_size (N p hp).1) (ints_rep t _)
end
end Mine
end

section
open PySem PySem.W PyProof.Rows PySem.Spec PySem.Calls
set_option Elab.async false
namespace Mine
/-- a value that the walk may read -/
structure VF (a b : Int) : Prop where
  eq : a = b
theorem sliced_ints (b : Array UInt8) (p q : Nat) : KBw.bInts (Builtin.Bytes.sliced b p q 1) = ((KBw.bInts b).drop p).take (q - p) := by
  unfold Builtin.Bytes.sliced KBw.bInts
  rw [sliceRange_one, pick_run b p (q - p)]
  simp [List.map_take, List.map_drop]
theorem picked_at {b : Array UInt8} {p q : Nat} (h1 : p ≤ q) (h2 : q ≤ b.size) : KBw.bInts (KBy.picked b (some (p : Int)) (some (q : Int))) = ((KBw.bInts b).drop p).take (q - p) := by
  unfold KBy.picked sliceBounds
  have e1 : max 0 (min (p : Int) (b.size : Int)) = (p : Int) := by lia
  have e2 : max 0 (min (q : Int) (b.size : Int)) = (q : Int) := by lia
  have hp : ¬ ((p : Int) < 0) := by lia
  have hq : ¬ ((q : Int) < 0) := by lia
  simp only [Option.getD_none, hp, hq, if_false, Int.zero_lt_one, if_true, gt_iff_lt, e1, e2]
  exact sliced_ints b p q
theorem picked_end {b : Array UInt8} (h : 4 ≤ b.size) : KBw.bInts (KBy.picked b none (some (-4))) = (KBw.bInts b).take (b.size - 4) := by
  unfold KBy.picked sliceBounds
  have e2 : max 0 (min ((-4 : Int) + (b.size : Int)) (b.size : Int)) = ((b.size - 4 : Nat) : Int) := by lia
  have hq : ((-4 : Int) < 0) := by decide
  simp only [Option.getD_none, hq, Int.zero_lt_one, if_true, gt_iff_lt, e2]
  exact sliced_ints b 0 (b.size - 4)
section
variable {prog : Program} {w : World} {A : Around} {E : Value → Shared → Prop} {s : Shared} {value slice : PySem.Expr} {b : Array UInt8} {t : Tok} {h₀ : Heap} {L : Addr} {m : PySem.Str → Option Value} {news : List (Addr × Obj)} {ks : List Int} {Q : Value → Shared → Prop}
theorem j_slice {p q : Int} {tp tq : Tok} (hF : Fr h₀ L s.heap m) (hN : News h₀ L s.heap news) (hb : KBw.bInts b = ks) (h1 : 0 ≤ p) (h2 : p ≤ q) (h3 : q ≤ ks.length) (h4 : p ≠ 0 ∨ q ≠ ks.length) (hz : ks.length ≤ 1048576)
    (h : ∀ bs h' t' k, Fr h₀ L h' m → News h₀ L h' news → KBw.bInts bs = (ks.drop p.toNat).take (q - p).toNat → Q (.bytes bs t') { s with heap := h', toks := k })
    (hs : subscripted slice false (.bytes b t) (.ref s.heap.objs.size) = operate [.ref s.heap.objs.size, .bytes b t] (getItem (.bytes b t) (.ref s.heap.objs.size)) := by with_unfolding_all rfl)
    (ht : ∀ r, letTemporaryGo value (.bytes b t) r = pure () := by intro _; with_unfolding_all rfl) :
    wpAny (model prog w) A (subscriptTail value slice (.bytes b t) (.ref s.heap.objs.size)) Q E { s with heap := s.heap.push { cls := .type "slice", data := .fields #[.int p tp, .int q tq, .none] } } := by
  subst hb
  have hsz := KBw.ints_length b
  obtain ⟨P, rfl⟩ := Int.eq_ofNat_of_zero_le h1
  obtain ⟨R, rfl⟩ := Int.eq_ofNat_of_zero_le (Int.le_trans h1 h2)
  have hpk := picked_at (b := b) (p := P) (q := R) (by lia) (by lia)
  refine KBy.slice_N hF hN (.int (P : Int) tp) (.int (R : Int) tq) ?_ ?_ (fun h' t' k F' N' => h _ h' t' k F' N' ?_) hs ht
  · unfold KBy.whole sliceBounds
    have e1 : max 0 (min (P : Int) (b.size : Int)) = (P : Int) := by lia
    have e2 : max 0 (min (R : Int) (b.size : Int)) = (R : Int) := by lia
    have hp : ¬ ((P : Int) < 0) := by lia
    have hq : ¬ ((R : Int) < 0) := by lia
    simp only [Option.getD_none, hp, hq, if_false, Int.zero_lt_one, if_true, gt_iff_lt, e1, e2]
    rcases h4 with h4 | h4
    · simp; intro q; exact absurd (by lia) h4
    · have : ¬ ((R : Int) = (b.size : Int)) := by rw [← hsz]; exact h4
      simp [this]
  · rw [← KBw.ints_length, hpk, List.length_take, List.length_drop]; lia
  · rw [hpk]
    congr 2
    lia
theorem j_slice4 {tq : Tok} (hF : Fr h₀ L s.heap m) (hN : News h₀ L s.heap news) (hb : KBw.bInts b = ks) (h3 : 4 ≤ ks.length) (hz : ks.length ≤ 1048576)
    (h : ∀ bs h' t' k, Fr h₀ L h' m → News h₀ L h' news → KBw.bInts bs = ks.take (ks.length - 4) → Q (.bytes bs t') { s with heap := h', toks := k })
    (hs : subscripted slice false (.bytes b t) (.ref s.heap.objs.size) = operate [.ref s.heap.objs.size, .bytes b t] (getItem (.bytes b t) (.ref s.heap.objs.size)) := by with_unfolding_all rfl)
    (ht : ∀ r, letTemporaryGo value (.bytes b t) r = pure () := by intro _; with_unfolding_all rfl) :
    wpAny (model prog w) A (subscriptTail value slice (.bytes b t) (.ref s.heap.objs.size)) Q E { s with heap := s.heap.push { cls := .type "slice", data := .fields #[.none, .int (-4) tq, .none] } } := by
  subst hb
  have hsz := KBw.ints_length b
  have hpk := picked_end (b := b) (by lia)
  refine KBy.slice_N hF hN .none (.int (-4) tq) ?_ ?_ (fun h' t' k F' N' => h _ h' t' k F' N' ?_) hs ht
  · unfold KBy.whole sliceBounds
    have e2 : max 0 (min ((-4 : Int) + (b.size : Int)) (b.size : Int)) = ((b.size - 4 : Nat) : Int) := by lia
    have hq : ((-4 : Int) < 0) := by decide
    simp only [Option.getD_none, hq, Int.zero_lt_one, if_true, gt_iff_lt, e2]
    have : ¬ (((b.size - 4 : Nat) : Int) = (b.size : Int)) := by lia
    simp [this]
  · rw [← KBw.ints_length, hpk, List.length_take]; lia
  · rw [hpk, hsz]
end
end Mine
namespace Mine
section
variable {prog : Program} {w : World} {A : Around} {E : Value → Shared → Prop} {s : Shared} {value slice : PySem.Expr} {b : Array UInt8} {t : Tok} {h₀ : Heap} {L la : Addr} {m : PySem.Str → Option Value} {news : List (Addr × Obj)} {ks ns : List Int} {us : List Value} {c : Nat} {Q : Value → Shared → Prop}
theorem j_part {p q : Int} {tp tq : Tok} (hF : Fr h₀ L s.heap m) (hN : News h₀ L s.heap news) (hb : KBw.bInts b = ks) (h1 : 0 ≤ p) (h2 : p ≤ q) (h3 : q ≤ ks.length) (h4 : p ≠ 0 ∨ q ≠ ks.length) (hz : ks.length ≤ 1048576)
    (h : ∀ bs ks' h' t' k, Fr h₀ L h' m → News h₀ L h' news → KBw.bInts bs = ks' → ks' = (ks.drop p.toNat).take (q - p).toNat → (ks'.length : Int) = q - p → Q (.bytes bs t') { s with heap := h', toks := k })
    (hs : subscripted slice false (.bytes b t) (.ref s.heap.objs.size) = operate [.ref s.heap.objs.size, .bytes b t] (getItem (.bytes b t) (.ref s.heap.objs.size)) := by with_unfolding_all rfl)
    (ht : ∀ r, letTemporaryGo value (.bytes b t) r = pure () := by intro _; with_unfolding_all rfl) :
    wpAny (model prog w) A (subscriptTail value slice (.bytes b t) (.ref s.heap.objs.size)) Q E { s with heap := s.heap.push { cls := .type "slice", data := .fields #[.int p tp, .int q tq, .none] } } :=
  j_slice hF hN hb h1 h2 h3 h4 hz (fun bs h' t' k F' N' e => h bs _ h' t' k F' N' e rfl (by rw [List.length_take, List.length_drop]; lia)) hs ht
theorem j_itemE {k v : Int} {u : Tok} (N : News h₀ L s.heap news) (hm : (la, listOf us.toArray c) ∈ news) (e : IntsAre us ns) (he : VF (ns.getD k.toNat 0) v) (h0 : 0 ≤ k) (hlt : k < (ns.length : Int)) (hfit : (ns.length : Int) < 2 ^ 63)
    (h : ∀ t, Q (.int v t) s)
    (hs : subscripted slice false (.ref la) (.int k u) = operate [.ref la, .int k u] (getItem (.ref la) (.int k u)) := by with_unfolding_all rfl) :
    wpAny (model prog w) A (subscriptTail value slice (.ref la) (.int k u)) Q E s := by
  obtain ⟨rfl⟩ := he
  exact j_item N hm e h0 hlt hfit h hs
end
end Mine
namespace Mine
section
variable {prog : Program} {w : World} {A : Around} {E : Value → Shared → Prop} {s : Shared} {a b v n : Int} {t u : Tok} {Q : Value → Shared → Prop}
theorem j_andE (he : VF (Builtin.bitAnd a b) v) (h : Q (.int v s.toks) { s with toks := s.toks + 1 }) : wpAny (model prog w) A (binaryOp .BitAnd (.int a t) (.int b u)) Q E s := by
  obtain ⟨rfl⟩ := he; exact and_int h
theorem j_shrE (hn : 0 ≤ n) (he : VF (a.fdiv (2 ^ n.toNat)) v) (h : Q (.int v s.toks) { s with toks := s.toks + 1 }) : wpAny (model prog w) A (binaryOp .RShift (.int a t) (.int n u)) Q E s := by
  obtain ⟨rfl⟩ := he; exact rshift_int hn h
end
end Mine
namespace Mine
section
variable {prog : Program} {w : World} {A : Around} {E : Value → Shared → Prop} {s : Shared} {h₀ : Heap} {L x : Addr} {news : List (Addr × Obj)} {b : Array UInt8} {t u : Tok} {ks : List Int} {Q : Value → Shared → Prop}
theorem j_frb (N : News h₀ L s.heap news) (hm : (x, KFB.bound) ∈ news) (hb : KBw.bInts b = ks) (hl : ks.length ≤ 8)
    (h : ∀ v t' k, v = KFB.value ks → Q (.int v t') { s with toks := k }) : wpAny (model prog w) A (call (.ref x) [.bytes b t, .str (PySem.Str.ofString "big") u]) Q E s :=
  KFB.call_big N hm hb hl fun t' k => h _ t' k rfl
end
end Mine
end

section
open PySem PySem.W PyProof.Rows PySem.Spec PySem.Calls
set_option Elab.async false
namespace Mine
theorem entry_set_ne : entryFor table "set.__ne__" = some Builtin.«frozenset.__ne__» := entryFor_alias (id' := "frozenset.__ne__") (by kernel_rfl) rfl (by rw [PySem.W.Fast.canonicalY_eq]; decide +kernel) (by kernel_rfl)
theorem entry_set_eq : entryFor table "set.__eq__" = some Builtin.«frozenset.__eq__» := entryFor_alias (id' := "frozenset.__eq__") (by kernel_rfl) rfl (by rw [PySem.W.Fast.canonicalY_eq]; decide +kernel) (by kernel_rfl)
section
variable {prog : Program} {w : World} {A : Around} {E : Value → Shared → Prop} {s : Shared}
/-- a set as it lies: its entries -/
structure SetEs (prog : Program) (w : World) (h : Heap) (a : Addr) (es : Array (Int × Value)) (ep : Nat) : Prop where
  ex : ∃ o t, h.get? a = some o ∧ o.ExactSet ∧ o.data = .set es ep t ∧ ElemsOf (intKind prog w) es.toList ∧ t.fits es.size = true
theorem setEs_of {h : Heap} {a : Addr} {S : Int → Bool} {n : Nat} (x : h.SetOf (intKind prog w) a S n) : ∃ es ep, SetEs prog w h a es ep ∧ es.size = n ∧ (∀ k, S k = true ↔ ∃ e ∈ es.toList, (intKind prog w).is k e.2 = true) := by
  obtain ⟨o, es, ep, t, h1, h2, h3, h4, h5, h6, h7, h8⟩ := x
  exact ⟨es, ep, ⟨⟨o, t, h1, h2, h3, h4, h7⟩⟩, h8, h5⟩
theorem entries_of {a : Addr} {es : Array (Int × Value)} {ep : Nat} {Q : Array (Int × Value) → Shared → Prop} (x : SetEs prog w s.heap a es ep) (h : Q es s) : wpAny (model prog w) A (setEntries a) Q E s := by
  obtain ⟨o, t, h1, h2, h3, h4, h5⟩ := x.ex
  exact wpAny_setEntries_of h1 h3 h5 h
theorem epoch_of {a : Addr} {es : Array (Int × Value)} {ep : Nat} {Q : Nat → Shared → Prop} (x : SetEs prog w s.heap a es ep) (h : Q ep s) : wpAny (model prog w) A (setEpoch a) Q E s := by
  obtain ⟨o, t, h1, h2, h3, h4, h5⟩ := x.ex
  exact wpAny_setEpoch_of h1 h3 h5 h
theorem setEs_ints {h : Heap} {a : Addr} {es : Array (Int × Value)} {ep : Nat} (x : SetEs prog w h a es ep) : ∀ e ∈ es.toList, ∃ n t, e.2 = Value.int n t := by
  obtain ⟨o, t, h1, h2, h3, h4, h5⟩ := x.ex
  intro e he
  obtain ⟨⟨k, hk, _⟩, _⟩ := h4 e he
  obtain ⟨t, ht⟩ := Value.isInt_shape hk
  exact ⟨k, t, ht⟩
theorem walkUnseen_of {a b : Addr} {es fs : Array (Int × Value)} {ep fp : Nat} {Q : List (Int × Value) → Shared → Prop} (x : SetEs prog w s.heap a es ep) (y : SetEs prog w s.heap b fs fp) (h : Q es.toList s) :
    wpAny (model prog w) A (Builtin.Frozenset.walkUnseen a b) Q E s := by
  unfold Builtin.Frozenset.walkUnseen
  refine wpAny_bind (entries_of x ?_)
  refine wpAny_bind (entries_of y ?_)
  refine wpAny_bind (wpAny_forIn_list _ (fun rest c s' => s = s' ∧ c = (none, ()) ∧ ∀ e ∈ rest, ∃ n t, e.2 = Value.int n t) (fun c s' => wpAny (model prog w) A _ Q E s') ?turn ?fin _ _ ⟨rfl, rfl, fun e he => ?_⟩)
  case turn =>
    rintro ⟨hsh, v⟩ rest c s' ⟨rfl, rfl, hr⟩
    obtain ⟨n, t, hv⟩ := hr _ List.mem_cons_self
    dsimp only at hv
    subst hv
    with_unfolding_all refine wpAny_bind (wpAny_pure ?_)
    with_unfolding_all refine wpAny_pure ?_
    exact ⟨rfl, rfl, fun e he => hr e (List.mem_cons_of_mem _ he)⟩
  case fin =>
    rintro c s' ⟨rfl, rfl, _⟩
    exact wpAny_pure h
  · rcases List.mem_append.mp he with he | he
    · exact setEs_ints x e he
    · exact setEs_ints y e he
theorem subset_of {id : String} {a b : Addr} {es : Array (Int × Value)} {ep n : Nat} {T : Int → Bool} {Q : Bool → Shared → Prop} (x : SetEs prog w s.heap a es ep) (hT : s.heap.SetOf (intKind prog w) b T n) (hn : es.size ≤ n)
    (hall : ∀ e ∈ es.toList, ∀ k, (intKind prog w).is k e.2 = true → T k = true) (h : Q true s) : wpAny (model prog w) A (Builtin.Frozenset.subsetOf id a b) Q E s := by
  obtain ⟨fs, fp, y, hfn, _⟩ := setEs_of hT
  unfold Builtin.Frozenset.subsetOf Builtin.Frozenset.sizeOf
  refine wpAny_bind (wpAny_bind (entries_of x (wpAny_pure ?_)))
  refine wpAny_bind (wpAny_bind (entries_of y (wpAny_pure ?_)))
  have hc : ¬ (es.size > fs.size) := by rw [hfn]; lia
  simp only [if_neg hc]
  refine wpAny_bind (epoch_of x ?_)
  refine wpAny_bind (walkUnseen_of x y ?_)
  obtain ⟨o, t, h1, h2, h3, h4, h5⟩ := x.ex
  refine wpAny_bind (wpAny_forIn_list _ (fun rest c s' => s = s' ∧ c = (none, ()) ∧ ∀ e ∈ rest, e ∈ es.toList) (fun c s' => wpAny (model prog w) A _ Q E s') ?turn ?fin _ _ ⟨rfl, rfl, fun e he => he⟩)
  case turn =>
    rintro ⟨hsh, v⟩ rest c s' ⟨rfl, rfl, hr⟩
    have he := hr _ List.mem_cons_self
    obtain ⟨⟨k, hk, hh⟩, hsc⟩ := h4 _ he
    dsimp only at hk hh hsc
    subst hh
    have hTk := hall _ he k hk
    dsimp only
    refine wpAny_bind (wpAny_holding (wpAny_setFind_of hk hsc hT fun r hr' => ?_))
    rw [hTk] at hr'
    have hnn : r.isNone = false := by cases r <;> simp_all
    rw [hnn]
    simp only [Bool.false_eq_true, if_false]
    unfold Builtin.Frozenset.unchanged
    refine wpAny_bind (wpAny_bind (epoch_of x ?_))
    simp only [bne_self_eq_false, Bool.false_eq_true, if_false]
    refine wpAny_pure (wpAny_pure ⟨rfl, rfl, fun e he => hr e (List.mem_cons_of_mem _ he)⟩)
  case fin =>
    rintro c s' ⟨rfl, rfl, _⟩
    exact wpAny_pure h
theorem typeIs_set {a : Addr} {S : Int → Bool} {n : Nat} (hS : s.heap.SetOf (intKind prog w) a S n) : s.TypeIs (.ref a) "set" := hS.typeIs
theorem any_set {a : Addr} {S : Int → Bool} {n : Nat} {Q : Bool → Shared → Prop} (hS : s.heap.SetOf (intKind prog w) a S n) (h : Q true s) : wpAny (model prog w) A (Builtin.Frozenset.isAnySet (.ref a)) Q E s := by
  with_unfolding_all refine wpAny_bind (wpAny_isInstance hS.typeIs sub_set_self ?_)
  with_unfolding_all exact wpAny_pure h
theorem not_frozen {a : Addr} {S : Int → Bool} {n : Nat} {m : Sem Bool} {Q : Bool → Shared → Prop} (hS : s.heap.SetOf (intKind prog w) a S n) (h : Q false s) : wpAny (model prog w) A (isInstance (.ref a) (.type "frozenset") <&&> m) Q E s := by
  with_unfolding_all refine wpAny_bind (wpAny_isInstance hS.typeIs PySem.F.sub_set_frozenset ?_)
  with_unfolding_all exact wpAny_pure h
theorem ne_sets {a b : Addr} {S T : Int → Bool} {n : Nat} {Q : PySem.Fin → Shared → Prop} (hS : s.heap.SetOf (intKind prog w) a S n) (hT : s.heap.SetOf (intKind prog w) b T n) (hall : ∀ k, S k = true → T k = true)
    (h : Q (.done (.ret (.bool false))) s) : wpAny (model prog w) A (Builtin.«frozenset.__ne__» ⟨[.ref a, .ref b], []⟩) Q E s := by
  obtain ⟨es, ep, x, hn, hm⟩ := setEs_of hS
  obtain ⟨fs, fp, y, hfn, _⟩ := setEs_of hT
  with_unfolding_all refine wpAny_bind (wpAny_pure ?_)
  dsimp only
  refine wpAny_bind (any_set hT ?_)
  rw [if_neg (by decide)]
  with_unfolding_all refine wpAny_bind (wpAny_pure ?_)
  with_unfolding_all refine wpAny_bind (wpAny_pure ?_)
  with_unfolding_all refine wpAny_bind (wpAny_bind (entries_of x (wpAny_pure ?_)))
  with_unfolding_all refine wpAny_bind (wpAny_bind (entries_of y (wpAny_pure ?_)))
  have hc : (es.size != fs.size) = false := by rw [hn, hfn]; simp
  rw [hc]
  simp only [Bool.false_eq_true, if_false]
  refine wpAny_bind (wpAny_bind (not_frozen hS ?_))
  simp only [Bool.false_eq_true, if_false]
  refine subset_of x hT (by lia) (fun e he k hk => hall k ((hm k).mpr ⟨e, he, hk⟩)) ?_
  exact wpAny_pure h
theorem eq_sets {a b : Addr} {S T : Int → Bool} {n : Nat} {Q : PySem.Fin → Shared → Prop} (hS : s.heap.SetOf (intKind prog w) a S n) (hT : s.heap.SetOf (intKind prog w) b T n) (hall : ∀ k, S k = true → T k = true)
    (h : Q (.done (.ret (.bool true))) s) : wpAny (model prog w) A (Builtin.«frozenset.__eq__» ⟨[.ref a, .ref b], []⟩) Q E s := by
  obtain ⟨es, ep, x, hn, hm⟩ := setEs_of hS
  obtain ⟨fs, fp, y, hfn, _⟩ := setEs_of hT
  with_unfolding_all refine wpAny_bind (wpAny_pure ?_)
  dsimp only
  refine wpAny_bind (any_set hT ?_)
  rw [if_neg (by decide)]
  with_unfolding_all refine wpAny_bind (wpAny_pure ?_)
  with_unfolding_all refine wpAny_bind (wpAny_pure ?_)
  with_unfolding_all refine wpAny_bind (wpAny_bind (entries_of x (wpAny_pure ?_)))
  with_unfolding_all refine wpAny_bind (wpAny_bind (entries_of y (wpAny_pure ?_)))
  have hc : (es.size != fs.size) = false := by rw [hn, hfn]; simp
  rw [hc]
  simp only [Bool.false_eq_true, if_false]
  refine wpAny_bind (wpAny_bind (not_frozen hS ?_))
  simp only [Bool.false_eq_true, if_false]
  refine subset_of x hT (by lia) (fun e he k hk => hall k ((hm k).mpr ⟨e, he, hk⟩)) ?_
  exact wpAny_pure h
variable {h₀ : Heap} {L a b : Addr} {m : Str → Option Value} {news : List (Addr × Obj)} {so po : Obj} {xs : List Int} {T : Int → Bool} {n : Nat} {Q : Value → Shared → Prop}
/-- a set and another, that hold the same numbers -/
theorem j_setne (N : News h₀ L s.heap news) (ha : (a, so) ∈ news) (hb : (b, po) ∈ news) (hP : SetP w so xs) (hT : po.SetObjOf (intKind prog w) T n) (hn : xs.length = n) (hall : ∀ k ∈ xs, T k = true) (hu : A.units < cLine)
    (h : Q (.bool false) s) : wpAny (model prog w) A (compareOp .NotEq (.ref a) (.ref b)) Q E s := by
  have hS : s.heap.SetOf (intKind prog w) a (fun k => decide (k ∈ xs)) xs.length := hP.objOf.setOf (N _ ha).1 hP.length
  have hT' : s.heap.SetOf (intKind prog w) b T n := hT.setOf (N _ hb).1 (by rw [← hn]; exact hP.length)
  subst hn
  show wpAny _ _ (richCompare .NotEq (.ref a) (.ref b)) _ _ _
  exact wpAny_richCompare_same_room hS.typeIs hT'.typeIs PySem.F.slot_set_ne (wpAny_call_entry PySem.F.slot_set_ne hS.typeIs entry_set_ne (ne_sets hS hT' (fun k hk => hall k (of_decide_eq_true hk)) ⟨_, rfl, (by intro q; cases q), h⟩) (PySem.F.args_set_ne_2 _ _)) hu
theorem j_seteq (N : News h₀ L s.heap news) (ha : (a, so) ∈ news) (hb : (b, po) ∈ news) (hP : SetP w so xs) (hT : po.SetObjOf (intKind prog w) T n) (hn : xs.length = n) (hall : ∀ k ∈ xs, T k = true) (hu : A.units < cLine)
    (h : Q (.bool true) s) : wpAny (model prog w) A (compareOp .Eq (.ref a) (.ref b)) Q E s := by
  have hS : s.heap.SetOf (intKind prog w) a (fun k => decide (k ∈ xs)) xs.length := hP.objOf.setOf (N _ ha).1 hP.length
  have hT' : s.heap.SetOf (intKind prog w) b T n := hT.setOf (N _ hb).1 (by rw [← hn]; exact hP.length)
  subst hn
  show wpAny _ _ (richCompare .Eq (.ref a) (.ref b)) _ _ _
  exact wpAny_richCompare_same_room hS.typeIs hT'.typeIs PySem.F.slot_set_eq (wpAny_call_entry PySem.F.slot_set_eq hS.typeIs entry_set_eq (eq_sets hS hT' (fun k hk => hall k (of_decide_eq_true hk)) ⟨_, rfl, (by intro q; cases q), h⟩) (PySem.F.args_set_eq_2 _ _)) hu
end
end Mine
end

section
open PySem PySem.W PyProof.Rows PySem.Spec PySem.Calls
set_option Elab.async false
namespace Mine
theorem dedup_nodup {σ : List Int} (h : σ.Nodup) (v : Int) : (step_dedup σ v).Nodup := by
  unfold step_dedup
  split
  · exact h
  · rename_i hn
    rw [List.nodup_append]
    refine ⟨h, by simp, fun a ha b hb => ?_⟩
    rw [List.mem_singleton.mp hb]
    intro e
    subst e
    exact hn (List.any_eq_true.mpr ⟨a, ha, by simp⟩)
theorem firstMet_nodup (val : Nat → Int) : ∀ i, (firstMet val i).Nodup
  | 0 => by rw [firstMet_zero]; exact List.nodup_nil
  | i + 1 => by rw [firstMet_succ]; exact dedup_nodup (firstMet_nodup val i) _
theorem range_getD (ns : List Int) : (List.range ns.length).map (fun i => ns.getD i 0) = ns := by
  apply List.ext_getElem
  · simp
  · intro i h1 h2
    simp only [List.getElem_map, List.getElem_range]
    rw [List.getD_eq_getElem?_getD, List.getElem?_eq_getElem h2]; rfl
theorem firstMet_mem (ns : List Int) (k : Int) : k ∈ firstMet (fun i => ns.getD i 0) ns.length ↔ k ∈ ns := by
  have h := firstMet_any (fun i => ns.getD i 0) ns.length k
  rw [range_getD] at h
  have e : ∀ l : List Int, (l.any (· == k) = true) ↔ k ∈ l := fun l => by simp
  rw [← e, ← e, h]
theorem same_len {xs ys : List Int} (hx : xs.Nodup) (hy : ys.Nodup) (h : ∀ p, p ∈ xs ↔ p ∈ ys) : xs.length = ys.length :=
  Nat.le_antisymm (nodup_len hx fun p hp => (h p).mp hp) (nodup_len hy fun p hp => (h p).mpr hp)
where
  nodup_len : ∀ {xs ps : List Int}, xs.Nodup → (∀ p ∈ xs, p ∈ ps) → xs.length ≤ ps.length
  | [], _, _, _ => Nat.zero_le _
  | x :: xs, ps, hn, hs => by
    have hx := hs x List.mem_cons_self
    rw [List.nodup_cons] at hn
    have := nodup_len (xs := xs) (ps := ps.erase x) hn.2 fun p hp => (List.mem_erase_of_ne (fun e => hn.1 (by rw [← e]; exact hp))).mpr (hs p (List.mem_cons_of_mem _ hp))
    rw [List.length_erase_of_mem hx] at this
    have hpos := List.length_pos_of_mem hx
    rw [List.length_cons]; lia
section
variable {prog : Program} {w : World} {A : Around} {E : Value → Shared → Prop} {s : Shared} {h₀ : Heap} {L l : Addr} {m : Str → Option Value} {news : List (Addr × Obj)} {vs : List Value} {ns : List Int} {c : Nat} {Q : Value → Shared → Prop}
/-- set(list) -/
theorem j_setof (hh : A.handled = none) (F : Fr h₀ L s.heap m) (N : News h₀ L s.heap news) (hl : (l, listOf vs.toArray c) ∈ news) (hi : IntsAre vs ns) (hz : ns.length ≤ 1000)
    (h : ∀ P po n h' tk, Fr h₀ L h' m → News h₀ L h' ((P, po) :: news) → (∀ q ∈ news, q.1 < P) → po.SetObjOf (intKind prog w) (fun k => decide (k ∈ ns)) n → (∀ xs : List Int, xs.Nodup → (∀ p, p ∈ xs ↔ p ∈ ns) → xs.length = n) → Q (.ref P) { s with heap := h', toks := tk }) :
    wpAny (model prog w) A (call (.type "set") [.ref l]) Q E s := by
  have hL : s.heap.IsList l vs.toArray := ⟨_, (N _ hl).1, rfl, _, rfl⟩
  have hlen : vs.toArray.size = ns.length := by rw [List.size_toArray, hi.length]
  have hsb : 1001 < scanBound := by decide
  refine call_set_list hh hL hi (by lia) fun h' tk hS hk => ?_
  rw [hlen] at hS
  have hb : ∀ b : Addr, s.heap.objs.size ≤ b → h₀.get? b = none := fresh_from F
  have hk' : ∀ b o, s.heap.get? b = some o → h'.get? b = some o := fun b o e => hk b o (Heap.lt_size e) e
  have hmem : ∀ k, (firstMet (fun i => ns.getD i 0) ns.length).any (· == k) = decide (k ∈ ns) := fun k => by
    rw [Bool.eq_iff_iff, decide_eq_true_iff, ← firstMet_mem]; simp
  have hS2 : h'.SetOf (intKind prog w) s.heap.objs.size (fun k => decide (k ∈ ns)) (firstMet (fun i => ns.getD i 0) ns.length).length := SetOf_congr hS hmem rfl
  obtain ⟨o, h1, h2⟩ := hS2.objOf
  refine h s.heap.objs.size o _ h' tk (F.keeps hk') (fun p hp => ?_) (fun q hq => Heap.lt_size (N q hq).1) h2 (fun xs hx hm => same_len hx (firstMet_nodup _ _) fun p => (hm p).trans (firstMet_mem ns p).symm)
  rcases List.mem_cons.mp hp with rfl | hp
  · exact ⟨h1, Ne.symm (Nat.ne_of_lt F.ns.lt), hb _ (Nat.le_refl _)⟩
  · exact ⟨hk' _ _ (N p hp).1, (N p hp).2⟩
end
end Mine
end

section
open PySem PySem.W PyProof.Rows PySem.Spec PySem.Calls
set_option Elab.async false
namespace Mine
section
variable {prog : Program} {w : World} {A : Around} {E : Value → Shared → Prop} {R : Result → Shared → Prop} {s : Shared} {env : Env} {elt i1 i2 : Expr} {x1 x2 : Str} {p1 p2 : Pos} {scope : Scope} {pos : Pos} {it acc : Value}
noncomputable abbrev two (elt i1 i2 : Expr) (x1 x2 : Str) (p1 p2 : Pos) (scope : Scope) (pos : Pos) : Expr := .ListComp elt [⟨.Name x1 p1, i1, [], 0⟩, ⟨.Name x2 p2, i2, [], 0⟩] scope pos
/-- a turn of the outer clause -/
theorem two_loop0 (I : Nat → Shared → Prop)
    (turn : ∀ n s, I n s → wpAny (model prog w) A (pyNext it) (fun r s₁ => match r with
      | none => R (.ok .next) s₁
      | some v => wpAny (model prog w) A (assign (.Name x1 p1) env v) (fun _ s₂ => wpAny (model prog w) A (eval i2 env) (fun x s₃ => wpAny (model prog w) A (pyIter x) (fun it2 s₄ =>
          codeAny (model prog w) A (.compStart (two elt i1 i2 x1 x2 p1 p2 scope pos) 1 it2 acc env) (fun r s' => match r with | .ok _ => ∃ m, m < n ∧ I m s' | .error _ => False) s₄) (notedBy (model prog w) A env fun e s' => R (.error e) s') s₃)
          (notedBy (model prog w) A env fun e s' => R (.error e) s') s₂) (notedBy (model prog w) A env fun e s' => R (.error e) s') s₁) (notedBy (model prog w) A env fun e s' => R (.error e) s') s)
    (n : Nat) (h : I n s) (hs : ∀ x, foldedSetIterable i2 env x = pure x) :
    codeAny (model prog w) A (.compLoop (two elt i1 i2 x1 x2 p1 p2 scope pos) 0 it acc env) R s := by
  refine codeAny_loop rfl I (fun n s hI => ?_) n h
  show wpAny _ _ ((compTurn (two elt i1 i2 x1 x2 p1 p2 scope pos) 0 it acc env).onRaise (fun x => do noteFrame x env; theTreesLotGoes x)) _ _ s
  refine wpAny_noted ?_
  with_unfolding_all refine wpAny_bind (wpAny_standAt (wpAny_bind (wpAny_mono (turn n s hI) (fun r s₁ h₁ => ?_) fun _ _ h' => h')))
  cases r with
  | none => exact wpAny_pure h₁
  | some v =>
    with_unfolding_all refine wpAny_bind (wpAny_pure ?_)
    with_unfolding_all refine wpAny_bind (wpAny_mono h₁ (fun _ s₂ h₂ => ?_) fun _ _ h' => h')
    with_unfolding_all refine wpAny_bind (wpAny_pure ?_)
    with_unfolding_all refine wpAny_bind (wpAny_mono h₂ (fun x s₃ h₃ => ?_) fun _ _ h' => h')
    with_unfolding_all refine wpAny_bind (wpAny_standAt ?_)
    with_unfolding_all refine wpAny_bind (wpAny_of_eq (hs x) ?_)
    with_unfolding_all refine wpAny_bind (wpAny_holding (wpAny_mono h₃ (fun it2 s₄ h₄ => ?_) fun _ _ h' => h'))
    with_unfolding_all refine wpAny_bind (wpAny_runOwn (codeAny_mono h₄ fun r s' hr => ?_))
    cases r with
    | ok f => exact wpAny_pure ⟨rfl, hr⟩
    | error e => exact hr.elim
/-- a turn of the inner clause -/
theorem two_loop1 (I : Nat → Shared → Prop)
    (turn : ∀ n s, I n s → wpAny (model prog w) A (pyNext it) (fun r s₁ => match r with
      | none => R (.ok .next) s₁
      | some v => wpAny (model prog w) A (assign (.Name x2 p2) env v) (fun _ s₂ => wpAny (model prog w) A (eval elt env) (fun x s₃ =>
          wpAny (model prog w) A (call (.builtin "list.append") [acc, x]) (fun _ s₄ => ∃ m, m < n ∧ I m s₄) (notedBy (model prog w) A env fun e s' => R (.error e) s') s₃)
          (notedBy (model prog w) A env fun e s' => R (.error e) s') s₂) (notedBy (model prog w) A env fun e s' => R (.error e) s') s₁) (notedBy (model prog w) A env fun e s' => R (.error e) s') s)
    (n : Nat) (h : I n s) :
    codeAny (model prog w) A (.compLoop (two elt i1 i2 x1 x2 p1 p2 scope pos) 1 it acc env) R s := by
  refine codeAny_loop rfl I (fun n s hI => ?_) n h
  show wpAny _ _ ((compTurn (two elt i1 i2 x1 x2 p1 p2 scope pos) 1 it acc env).onRaise (fun x => do noteFrame x env; theTreesLotGoes x)) _ _ s
  refine wpAny_noted ?_
  with_unfolding_all refine wpAny_bind (wpAny_standAt (wpAny_bind (wpAny_mono (turn n s hI) (fun r s₁ h₁ => ?_) fun _ _ h' => h')))
  cases r with
  | none => exact wpAny_pure h₁
  | some v =>
    with_unfolding_all refine wpAny_bind (wpAny_pure ?_)
    with_unfolding_all refine wpAny_bind (wpAny_mono h₁ (fun _ s₂ h₂ => ?_) fun _ _ h' => h')
    with_unfolding_all refine wpAny_bind (wpAny_pure ?_)
    with_unfolding_all refine wpAny_bind (wpAny_bind (wpAny_mono h₂ (fun x s₃ h₃ => ?_) fun _ _ h' => h'))
    with_unfolding_all refine wpAny_bind (wpAny_mono h₃ (fun _ s₄ h₄ => ?_) fun _ _ h' => h')
    exact wpAny_pure (wpAny_pure ⟨rfl, h₄⟩)
theorem two_start1
    (h0 : codeAny (model prog w) A (.compLoop (two elt i1 i2 x1 x2 p1 p2 scope pos) 1 it acc env) R s)
    (h : wpAny (model prog w) A (pyIter it) (fun it' s' => codeAny (model prog w) A (.compLoop (two elt i1 i2 x1 x2 p1 p2 scope pos) 1 it' acc env) R s')
      (notedBy (model prog w) A env fun x s' => R (.error x) s') s) :
    codeAny (model prog w) A (.compStart (two elt i1 i2 x1 x2 p1 p2 scope pos) 1 it acc env) R s := by
  refine codeAny_of_tree ?_
  show wpAny _ _ ((compStart (two elt i1 i2 x1 x2 p1 p2 scope pos) 1 it acc env).onRaise (fun x => do noteFrame x env; standAt theWindowsPlace)) _ _ s
  refine wpAny_notedAt ?_
  unfold compStart
  show wpAny _ _ (ask >>= _) _ _ s
  refine wpAny_bind (wpAny_askSetting (wpAny_ite ?_))
  split
  · first
      | exact wpAny_bind (wpAny_pure (wpAny_pure (And.intro rfl h0)))
      | exact wpAny_pure (And.intro rfl h0)
  · first
      | exact wpAny_bind (wpAny_rule (wpAny_bind (wpAny_standAt (wpAny_bind (wpAny_mono h (fun it' s' h' => wpAny_pure (And.intro rfl h')) fun _ _ x => x)))))
      | (refine wpAny_bind (wpAny_rule ?_); show wpAny _ _ (standAt i2.pos >>= _) _ _ s; exact wpAny_bind (wpAny_standAt (wpAny_bind (wpAny_mono h (fun it' s' h' => wpAny_pure (And.intro rfl h')) fun _ _ x => x))))
end
end Mine
end

section
open PySem PySem.W PyProof.Rows PySem.Spec PySem.Calls
set_option Elab.async false
namespace Mine
theorem pre_len {ns : List Int} (g : Int → List Int) {i : Nat} {n : Int} (hi : ns[i]? = some n) {l : List Int} (hl : l.length ≤ (g n).length) : ((ns.take i).flatMap g ++ l).length ≤ (ns.flatMap g).length := by
  obtain ⟨h, e⟩ := List.getElem?_eq_some_iff.mp hi
  have e2 : ns = ns.take i ++ n :: ns.drop (i + 1) := by
    rw [← e, ← List.drop_eq_getElem_cons h, List.take_append_drop]
  conv => rhs; rw [e2]
  rw [List.flatMap_append, List.flatMap_cons]
  simp only [List.length_append]
  lia
theorem pre_more {ns : List Int} (g : Int → List Int) {i : Nat} {n : Int} (hi : ns[i]? = some n) : (ns.take (i + 1)).flatMap g = (ns.take i).flatMap g ++ g n := by
  rw [List.take_add_one, hi, List.flatMap_append]; simp
noncomputable def grid (cnt : Int → Nat) (f : Int → Nat → Int) (n : Int) : List Int := (List.range (cnt n)).map (f n)
section
variable {prog : Program} {w : World} {A : Around} {E : Value → Shared → Prop} {s : Shared} {env : Env} {elt i1 i2 : Expr} {x1 x2 y : Str} {p1 p2 py : Pos} {scope : Scope} {pos spos : Pos} {h₀ : Heap} {L : Addr} {m : Str → Option Value} {cl : List (Str × Addr)}
open LCg
structure RngEnd (h₀ : Heap) (L : Addr) (m : Str → Option Value) (s₁ : Shared) (lg : List (Addr × Obj)) (c : Nat) (xv : Value) (s' : Shared) : Prop where
  ex : ∃ r h' tk' u1 u2 u3, xv = .ref r ∧ s' = { s₁ with heap := h', toks := tk' } ∧ Fr h₀ L h' m ∧ News h₀ L h' lg ∧ IsRange h' r 0 (c : Int) 1 u1 u2 u3
structure IntEnd (h₀ : Heap) (L : Addr) (m : Str → Option Value) (s₁ : Shared) (lg : List (Addr × Obj)) (z : Int) (v : Value) (s' : Shared) : Prop where
  ex : ∃ h' tk' t'', v = .int z t'' ∧ s' = { s₁ with heap := h', toks := tk' } ∧ Fr h₀ L h' m ∧ News h₀ L h' lg
/-- what the two clauses are, and what is told behind them -/
noncomputable def Two (prog : Program) (w : World) (A : Around) (h₀ : Heap) (L : Addr) (m : Str → Option Value) (env : Env) (elt i2 : Expr) (x1 x2 y : Str) (scope : Scope) (cl : List (Str × Addr)) (ns : List Int) (cnt : Int → Nat) (f : Int → Nat → Int) (Q : Flow → Shared → Prop) (xv : Value) (s₁ : Shared) : Prop :=
  ∃ (ax : Addr) (its : Array Value) (ep : Nat) (news : List (Addr × Obj)), xv = .ref ax ∧ Fr h₀ L s₁.heap m ∧ News h₀ L s₁.heap news ∧ (ax, listOf its ep) ∈ news ∧ IntsAre its.toList ns ∧
    (∀ n t I oI C oC D oD m₂ h tk (E' : Value → Shared → Prop), n ∈ ns → NsObj oC m₂ → m₂ x1 = some (.int n t) → Fr h₀ L h m → News h₀ L h ((I, oI) :: (C, oC) :: (D, oD) :: news) →
      wpAny (model prog w) A (eval i2 (compEnvC scope cl C env)) (RngEnd h₀ L m s₁ ((I, oI) :: (C, oC) :: (D, oD) :: news) (cnt n)) E' { s₁ with heap := h, toks := tk }) ∧
    (∀ n (k : Nat) t t' I2 oI2 I oI C oC D oD m₂ h tk (E' : Value → Shared → Prop), n ∈ ns → k < cnt n → NsObj oC m₂ → m₂ x1 = some (.int n t) → m₂ x2 = some (.int (k : Int) t') → Fr h₀ L h m → News h₀ L h ((I2, oI2) :: (I, oI) :: (C, oC) :: (D, oD) :: news) →
      wpAny (model prog w) A (eval elt (compEnvC scope cl C env)) (IntEnd h₀ L m s₁ ((I2, oI2) :: (I, oI) :: (C, oC) :: (D, oD) :: news) (f n k)) E' { s₁ with heap := h, toks := tk }) ∧
    (∀ D h tk vs c, Fr h₀ L h (fun z => if z = y then some (.ref D) else m z) → News h₀ L h ((D, listOf vs.toArray c) :: news) → (∀ q ∈ news, q.1 < D) → IntsAre vs (ns.flatMap (grid cnt f)) → Q .next { s₁ with heap := h, toks := tk })
theorem IntsAre.at {vs : List Value} {ns : List Int} (h : IntsAre vs ns) : ∀ {i : Nat} {v : Value}, vs[i]? = some v → ∃ n t, v = .int n t ∧ ns[i]? = some n := by
  induction h with
  | nil => intro i v hv; simp at hv
  | cons n t _ ih =>
    intro i v hv
    cases i with
    | zero => exact ⟨n, t, (Option.some.inj hv).symm, rfl⟩
    | succ i => exact ih hv
theorem ints_snoc {vs : List Value} {ns : List Int} (h : IntsAre vs ns) (n : Int) (t : Tok) : IntsAre (vs ++ [.int n t]) (ns ++ [n]) := by
  induction h with
  | nil => exact .cons n t .nil
  | cons a u _ ih => exact .cons a u ih
theorem two_assign {ns : List Int} {cnt : Int → Nat} {f : Int → Nat → Int} {Q : Flow → Shared → Prop} (_F₀ : Fr h₀ L s.heap m) (hh : A.handled = none) (hLe : env.locals = L)
    (hsw : swapsWith (two elt i1 i2 x1 x2 p1 p2 scope pos) (some (.Name y py)) spos.line env = pure true)
    (hclos : closureFor scope env = pure cl) (hcell : ∀ z ∈ scope.names, z.2 ≠ .cell) (hkind : scope.kind = .function)
    (hnames : ∀ z ∈ scope.names, z.2 = .local → scope.names.lookup z.1 = some .local) (hx1 : scope.names.lookup x1 = some .local) (hx2 : scope.names.lookup x2 = some .local) (hne : x1 ≠ x2)
    (hy : env.kindOf y = some .local) (hp : (env.scope.kind == .class || (env.scope.kind == .module && env.locals != env.globals)) = false)
    (hlen : (ns.flatMap (grid cnt f)).length ≤ 1048576) (hcnt : ∀ n ∈ ns, cnt n < 1152921504606846976)
    (h : wpAny (model prog w) A (eval i1 env) (Two prog w A h₀ L m env elt i2 x1 x2 y scope cl ns cnt f Q) E s)
    (hs : ∀ x, foldedSetIterable i1 env x = pure x) (hs2 : ∀ C x, foldedSetIterable i2 (compEnvC scope cl C env) x = pure x) :
    wpAny (model prog w) A (exec (.Assign [.Name y py] (two elt i1 i2 x1 x2 p1 p2 scope pos) spos) env) Q E s := by
  subst hLe
  rw [exec_Assign_Name_used _ _ _ _ hsw]
  refine wpAny_bind (wpAny_standAt (wpAny_bind ?_))
  show wpAny _ A (do let _ ← comprehension (two elt i1 i2 x1 x2 p1 p2 scope pos) scope env _ (newList []) false (eval i1 env) (some (assign (.Name y py) env))) _ _ s
  refine wpAny_bind (wpAny_mono (wpAny_comprehension_free (use := some (assign (.Name y py) env)) (Q := fun _ s' => Q .next s') rfl hs hclos hkind hnames
    (wpAny_mono h (fun xv s₁ h₁ => ?_) fun _ _ e => e)) (fun _ s' hq => wpAny_pure (wpAny_pure hq)) fun _ _ e => e)
  obtain ⟨ax, its, ep, news, rfl, F, N, hax, hI, hinner, helt, hfin⟩ := h₁
  have hl : s₁.heap.IsList ax its := ⟨_, (N _ hax).1, rfl, _, rfl⟩
  have hlt : ax < s₁.heap.objs.size := Heap.lt_size (N _ hax).1
  refine wpAny_pyIter_list hl ?_
  have up : ∀ b o, s₁.heap.get? b = some o → (s₁.heap.push { cls := .type "list_iterator", data := .fields #[.ref ax, .int 0 0] }).get? b = some o := fun b o e => Heap.get?_push_of_some _ e
  have hIs : (s₁.heap.push { cls := .type "list_iterator", data := .fields #[.ref ax, .int 0 0] }).get? s₁.heap.objs.size = some { cls := .type "list_iterator", data := .fields #[.ref ax, .int 0 0] } := Heap.get?_push_size _ rfl
  have hsz1 : (s₁.heap.push { cls := .type "list_iterator", data := .fields #[.ref ax, .int 0 0] }).objs.size = s₁.heap.objs.size + 1 := Heap.size_push ..
  have fresh₀ : ∀ b : Addr, s₁.heap.objs.size ≤ b → h₀.get? b = none := fresh_from F
  have hLlt : env.locals < s₁.heap.objs.size := F.ns.lt
  have hnlt : ∀ p ∈ news, p.1 < s₁.heap.objs.size := fun p hp => Heap.lt_size (N p hp).1
  generalize hH1 : s₁.heap.push { cls := .type "list_iterator", data := .fields #[.ref ax, .int 0 0] } = H1 at up hIs hsz1 ⊢
  refine wpAny_newObj_type (wpAny_newFunctionEnv hcell (by intro y hy; simp at hy) (fun h₁ hns₁ hsb₁ => ?_) hkind)
  dsimp only at hns₁ hsb₁ ⊢
  generalize hH2 : H1.push { cls := .type "list", dict := none, data := .seq ([] : List Value).toArray } = H2 at hns₁ hsb₁ ⊢
  have hsz2 : H2.objs.size = s₁.heap.objs.size + 2 := by rw [← hH2, Heap.size_push, hsz1]
  obtain ⟨I, hIe⟩ : ∃ I, I = s₁.heap.objs.size := ⟨_, rfl⟩
  obtain ⟨D, hDe⟩ : ∃ D, D = H1.objs.size := ⟨_, rfl⟩
  obtain ⟨C, hCe⟩ : ∃ C, C = H2.objs.size := ⟨_, rfl⟩
  have hD1 : D = I + 1 := by rw [hDe, hsz1, hIe]
  have hC1 : C = I + 2 := by rw [hCe, hsz2, hIe]
  rw [← hIe] at hIs hLlt hnlt hlt fresh₀
  have hold : ∀ b o, H1.get? b = some o → h₁.get? b = some o := fun b o e => by
    have e1 : H2.get? b = some o := by rw [← hH2]; exact Heap.get?_push_of_some _ e
    refine hsb₁.extBut b o ?_ (Heap.get?_push_of_some _ e1)
    have := Heap.lt_size e1
    exact Nat.ne_of_lt this
  have hacc : h₁.get? D = some (lst []) := by
    have e1 : H2.get? D = some (lst []) := by rw [← hH2, hDe]; exact Heap.get?_push_size _ rfl
    refine hsb₁.extBut _ _ ?_ (Heap.get?_push_of_some _ e1)
    exact Nat.ne_of_lt (Heap.lt_size e1)
  have F1 : Fr h₀ env.locals h₁ m := F.keeps fun b o e => hold b o (up b o e)
  have N1 : News h₀ env.locals h₁ news := fun p hp => ⟨hold _ _ (up _ _ (N p hp).1), (N p hp).2⟩
  rw [← hCe] at hns₁ ⊢
  rw [← hDe, ← hIe]
  have dI : ∀ p ∈ news, p.1 ≠ I := fun p hp => Nat.ne_of_lt (hnlt p hp)
  have dD : ∀ p ∈ news, p.1 ≠ D := fun p hp => by have := hnlt p hp; exact Nat.ne_of_lt (by rw [hD1]; exact Nat.lt_succ_of_lt this)
  have dC : ∀ p ∈ news, p.1 ≠ C := fun p hp => by have := hnlt p hp; exact Nat.ne_of_lt (by rw [hC1]; exact Nat.lt_succ_of_lt (Nat.lt_succ_of_lt this))
  have lI : env.locals ≠ I := Nat.ne_of_lt hLlt
  have lD : D ≠ env.locals := Ne.symm (Nat.ne_of_lt (by rw [hD1]; exact Nat.lt_succ_of_lt hLlt))
  have lC : C ≠ env.locals := Ne.symm (Nat.ne_of_lt (by rw [hC1]; exact Nat.lt_succ_of_lt (Nat.lt_succ_of_lt hLlt)))
  have hID : I ≠ D := Nat.ne_of_lt (by rw [hD1]; exact Nat.lt_succ_self _)
  have hIC : I ≠ C := Nat.ne_of_lt (by rw [hC1]; exact Nat.lt_succ_of_lt (Nat.lt_succ_self _))
  have hDC : D ≠ C := Nat.ne_of_lt (by rw [hC1, hD1]; exact Nat.lt_succ_self _)
  have zI : h₀.get? I = none := fresh₀ I (Nat.le_refl _)
  have zD : h₀.get? D = none := fresh₀ D (by rw [hD1]; exact Nat.le_succ _)
  have zC : h₀.get? C = none := fresh₀ C (by rw [hC1]; exact Nat.le_trans (Nat.le_succ _) (Nat.le_succ _))
  have W := Walks.list (prog := prog) (w := w) hh I ax (Nat.ne_of_lt hlt) its
  have hits : its.size = ns.length := by rw [← hI.length, Array.length_toList]
  have loop : ∀ s₃ : Shared, s₃ = { s₁ with heap := h₁, toks := s₁.toks + ([] : List (Str × Value)).length } →
      codeAny (model prog w) A (.compLoop (two elt i1 i2 x1 x2 p1 p2 scope pos) 0 (.ref I) (.ref D) (compEnvC scope cl C env)) (compPost (model prog w) A E (some (assign (.Name y py) env)) (fun _ s' => Q .next s') (.ref D) C) s₃ := by
    rintro s₃ rfl
    refine two_loop0 (fun k s' => ∃ h' tk i ys m', s' = { s₁ with heap := h', toks := tk } ∧ i ≤ its.size ∧ k = its.size + 1 - i ∧ (h'.IsListIter I ax i ∧ h'.IsList ax its) ∧ Fr h₀ env.locals h' m ∧ h'.Ns C m' ∧ News h₀ env.locals h' ((D, lst ys) :: news) ∧ IntsAre ys ((ns.take i).flatMap (grid cnt f)))
      ?_ (its.size + 1) ⟨h₁, _, 0, [], _, rfl, Nat.zero_le _, rfl, ⟨⟨_, hold _ _ hIs, rfl, rfl⟩, ⟨_, hold _ _ (up _ _ (N _ hax).1), rfl, _, rfl⟩⟩, F1, hns₁, ?_, .nil⟩ (hs2 C)
    · rintro k s' ⟨h', tk, i, ys, m', rfl, hi, rfl, hst, F', hn', N', hys⟩
      by_cases hlt' : i < its.size
      · refine W.item i _ _ _ hlt' hst fun v h₂ tk₂ hPv hst₂ hk₂ => ?_
        obtain ⟨n, t, rfl, hnn⟩ := IntsAre.at hI (i := i) (v := v) (by rw [← hPv]; simp)
        have hmem : n ∈ ns := List.mem_of_getElem? hnn
        refine wpAny_assign_Name (wpAny_storeName_local (lookup_relabel_local hx1) (hn'.at' fun o e => hk₂ _ o (by simpa using Ne.symm hIC) e) (fun h₃ hn₃ hs₃ => ?_) (by simp [compEnvC, relabel, hkind]))
        have hst₃ := W.frame _ _ h₃ hst₂ fun b hb o e => hs₃.extBut b o (fun q => by
          rcases List.mem_cons.mp hb with e | hb
          · exact hIC (e.symm.trans q)
          · have := dC _ hax
            rw [List.mem_singleton.mp hb] at q
            exact this q) e
        obtain ⟨oI, heI, hoI⟩ := hst₃.1
        obtain ⟨oC, heC, hoC⟩ := ns_obj hn₃
        have F₃ : Fr h₀ env.locals h₃ m := (fr_but F' hk₂ lI zI).change hs₃ lC zC
        have N₂ : News h₀ env.locals h₂ ((D, lst ys) :: news) := news_but N' hk₂ fun p hp => by
          rcases List.mem_cons.mp hp with rfl | hp
          · exact Ne.symm hID
          · exact dI p hp
        have N₃ : News h₀ env.locals h₃ ((I, oI) :: (C, oC) :: (D, lst ys) :: news) := fun p hp => by
          rcases List.mem_cons.mp hp with rfl | hp
          · exact ⟨heI, Ne.symm lI, zI⟩
          · rcases List.mem_cons.mp hp with rfl | hp
            · exact ⟨heC, lC, zC⟩
            · refine ⟨hs₃.extBut _ _ ?_ (N₂ p hp).1, (N₂ p hp).2⟩
              rcases List.mem_cons.mp hp with rfl | hp
              · exact hDC
              · exact dC p hp
        refine wpAny_mono (hinner n t I oI C oC D (lst ys) _ h₃ _ _ hmem hoC (by simp) F₃ N₃) (fun xv s₄ hx => ?_) fun _ _ e => e
        obtain ⟨r, h₄, tk₄, u1, u2, u3, rfl, rfl, F₄, N₄, hr⟩ := hx.ex
        have hcn := hcnt n hmem
        have hrs : Builtin.Range.rangeSize 0 (cnt n : Int) 1 = (cnt n : Int) := by rw [rangeSize_nat]; lia
        refine wpAny_pyIter_range hr (small_one (by decide) (by decide) (by lia) (by lia)) ?_
        rw [hrs]
        have up5 : ∀ b o, h₄.get? b = some o → (h₄.push { cls := .type "range_iterator", data := .fields #[rawInt 0, rawInt (cnt n : Int), rawInt 1] }).get? b = some o := fun b o e => Heap.get?_push_of_some _ e
        have hJs : IsRangeIter (h₄.push { cls := .type "range_iterator", data := .fields #[rawInt 0, rawInt (cnt n : Int), rawInt 1] }) h₄.objs.size 0 (cnt n : Int) 1 := Heap.get?_push_size _ rfl
        generalize (h₄.push { cls := .type "range_iterator", data := .fields #[rawInt 0, rawInt (cnt n : Int), rawInt 1] }) = H5 at up5 hJs ⊢
        have zJ : h₀.get? h₄.objs.size = none := fresh_from (s := { s₁ with heap := h₄, toks := tk₄ }) F₄ _ (Nat.le_refl _)
        have lJ : env.locals ≠ h₄.objs.size := Nat.ne_of_lt F₄.ns.lt
        have dJ : ∀ p ∈ (I, oI) :: (C, oC) :: (D, lst ys) :: news, p.1 ≠ h₄.objs.size := fun p hp => Nat.ne_of_lt (Heap.lt_size (N₄ p hp).1)
        have dJI : I ≠ h₄.objs.size := dJ (I, oI) List.mem_cons_self
        have dJC : C ≠ h₄.objs.size := dJ (C, oC) (List.mem_cons_of_mem _ List.mem_cons_self)
        have dJD : D ≠ h₄.objs.size := dJ (D, lst ys) (List.mem_cons_of_mem _ (List.mem_cons_of_mem _ List.mem_cons_self))
        have dJn : ∀ p ∈ news, p.1 ≠ h₄.objs.size := fun p hp => dJ p (List.mem_cons_of_mem _ (List.mem_cons_of_mem _ (List.mem_cons_of_mem _ hp)))
        have F₅ : Fr h₀ env.locals H5 m := F₄.keeps up5
        have N₅ : News h₀ env.locals H5 ((I, oI) :: (C, oC) :: (D, lst ys) :: news) := fun p hp => ⟨up5 _ _ (N₄ p hp).1, (N₄ p hp).2⟩
        generalize h₄.objs.size = J at *
        have W2 := range_walks (prog := prog) (w := w) (I := J) hh 0 (cnt n)
        have inner : ∀ s₅ : Shared, s₅ = { s₁ with heap := H5, toks := tk₄ } →
            codeAny (model prog w) A (.compLoop (two elt i1 i2 x1 x2 p1 p2 scope pos) 1 (.ref J) (.ref D) (compEnvC scope cl C env)) (fun r s' => match r with
              | .ok _ => ∃ k, k < its.size + 1 - i ∧ ∃ h' tk i ys m', s' = { s₁ with heap := h', toks := tk } ∧ i ≤ its.size ∧ k = its.size + 1 - i ∧ (h'.IsListIter I ax i ∧ h'.IsList ax its) ∧ Fr h₀ env.locals h' m ∧ h'.Ns C m' ∧ News h₀ env.locals h' ((D, lst ys) :: news) ∧ IntsAre ys ((ns.take i).flatMap (grid cnt f))
              | .error _ => False) s₅ := by
          rintro s₅ rfl
          refine two_loop1 (fun k s' => ∃ h' tk j ys' oC' m₂, s' = { s₁ with heap := h', toks := tk } ∧ j ≤ cnt n ∧ k = cnt n + 1 - j ∧ IsRangeIter h' J (0 + (j : Nat) * 1) ((cnt n : Int) - (j : Nat)) 1 ∧ Fr h₀ env.locals h' m ∧ NsObj oC' m₂ ∧ m₂ x1 = some (.int n t) ∧
            News h₀ env.locals h' ((I, oI) :: (C, oC') :: (D, lst ys') :: news) ∧ IntsAre ys' ((ns.take i).flatMap (grid cnt f) ++ (List.range j).map (f n)))
            ?_ (cnt n + 1) ⟨H5, _, 0, ys, oC, _, rfl, Nat.zero_le _, rfl, by simpa using hJs, F₅, hoC, by simp, N₅, by simpa using hys⟩
          rintro k s' ⟨h', tk, j, ys', oC', m₂, rfl, hj, rfl, hstJ, F', hoC', hm1, N', hys'⟩
          by_cases hjc : j < cnt n
          · refine W2.item j _ _ _ hjc hstJ fun v h₆ tk₆ hPv hst₆ hk₆ => ?_
            obtain ⟨t', rfl⟩ := hPv
            rw [show (0 : Int) + (j : Int) = (j : Int) by lia]
            have N₆ : News h₀ env.locals h₆ ((I, oI) :: (C, oC') :: (D, lst ys') :: news) := news_but N' hk₆ fun p hp => by
              rcases List.mem_cons.mp hp with rfl | hp
              · exact dJI
              · rcases List.mem_cons.mp hp with rfl | hp
                · exact dJC
                · rcases List.mem_cons.mp hp with rfl | hp
                  · exact dJD
                  · exact dJn p hp
            have F₆ := fr_but F' hk₆ lJ zJ
            have nsC : h₆.Ns C m₂ := hoC'.ns (N₆ (C, oC') (List.mem_cons_of_mem _ List.mem_cons_self)).1
            refine wpAny_assign_Name (wpAny_storeName_local (lookup_relabel_local hx2) nsC (fun h₇ hn₇ hs₇ => ?_) (by simp [compEnvC, relabel, hkind]))
            obtain ⟨oC7, heC7, hoC7⟩ := ns_obj hn₇
            have F₇ := F₆.change hs₇ lC zC
            have hJ7 : h₇.get? J = _ := hs₇.extBut J _ (Ne.symm dJC) hst₆
            have N₇ : News h₀ env.locals h₇ ((J, { cls := .type "range_iterator", dict := none, data := .fields #[rawInt (0 + ((j + 1 : Nat) : Int) * 1), rawInt ((cnt n : Int) - ((j + 1 : Nat) : Int)), rawInt 1], slots := #[] }) :: (I, oI) :: (C, oC7) :: (D, lst ys') :: news) := fun p hp => by
              rcases List.mem_cons.mp hp with rfl | hp
              · exact ⟨hJ7, Ne.symm lJ, zJ⟩
              · rcases List.mem_cons.mp hp with rfl | hp
                · have z := N₆ (I, oI) List.mem_cons_self
                  exact ⟨hs₇.extBut _ _ hIC z.1, z.2⟩
                · rcases List.mem_cons.mp hp with rfl | hp
                  · exact ⟨heC7, lC, zC⟩
                  · have z := N₆ p (List.mem_cons_of_mem _ (List.mem_cons_of_mem _ hp))
                    refine ⟨hs₇.extBut _ _ ?_ z.1, z.2⟩
                    rcases List.mem_cons.mp hp with rfl | hp
                    · exact hDC
                    · exact dC p hp
            refine wpAny_mono (helt n j t t' J _ I oI C oC7 D (lst ys') _ h₇ _ _ hmem hjc hoC7 (by simp [hne, hm1]) (by simp) F₇ N₇) (fun v s₈ hx => ?_) fun _ _ e => e
            obtain ⟨h₈, tk₈, t'', rfl, rfl, F₈, N₈⟩ := hx.ex
            have zzJ := (N₈ _ List.mem_cons_self).1
            have zzC := (N₈ (C, oC7) (List.mem_cons_of_mem _ (List.mem_cons_of_mem _ List.mem_cons_self))).1
            have zzD := (N₈ (D, lst ys') (List.mem_cons_of_mem _ (List.mem_cons_of_mem _ (List.mem_cons_of_mem _ List.mem_cons_self)))).1
            have hyl : ys'.length ≤ 1048576 := by
              rw [hys'.length]
              refine Nat.le_trans (pre_len (grid cnt f) hnn ?_) hlen
              unfold grid
              rw [List.length_map, List.length_map, List.length_range, List.length_range]; exact hj
            refine append_at (hsz := by show ys'.toArray.size ≤ sizeLine; rw [List.size_toArray, sizeLine_eq]; lia) zzD fun h₉ hs₉ hD₉ => ?_
            refine ⟨cnt n + 1 - (j + 1), by lia, h₉, tk₈, j + 1, ys' ++ [.int (f n j) t''], oC7, _, rfl, hjc, rfl, hs₉.extBut _ _ (Ne.symm dJD) zzJ, F₈.change hs₉ lD zD, hoC7, by simp [hne, hm1], fun p hp => ?_, ?_⟩
            · have hD' := hD₉.trans (congrArg some (lst_snoc ys' (.int (f n j) t'')))
              rcases List.mem_cons.mp hp with rfl | hp
              · have z := N₈ (I, oI) (List.mem_cons_of_mem _ List.mem_cons_self)
                exact ⟨hs₉.extBut _ _ hID z.1, z.2⟩
              · rcases List.mem_cons.mp hp with rfl | hp
                · exact ⟨hs₉.extBut _ _ (Ne.symm hDC) zzC, lC, zC⟩
                · rcases List.mem_cons.mp hp with rfl | hp
                  · exact ⟨hD', lD, zD⟩
                  · have z := N₈ p (List.mem_cons_of_mem _ (List.mem_cons_of_mem _ (List.mem_cons_of_mem _ (List.mem_cons_of_mem _ hp))))
                    exact ⟨hs₉.extBut _ _ (dD p hp) z.1, z.2⟩
            · rw [List.range_succ, List.map_append, ← List.append_assoc]
              exact ints_snoc hys' _ _
          · obtain rfl : j = cnt n := Nat.le_antisymm hj (Nat.not_lt.mp hjc)
            refine W2.done _ _ _ hstJ fun h₆ tk₆ hk₆ => ?_
            have N₆ : News h₀ env.locals h₆ ((I, oI) :: (C, oC') :: (D, lst ys') :: news) := news_but N' hk₆ fun p hp => by
              rcases List.mem_cons.mp hp with rfl | hp
              · exact dJI
              · rcases List.mem_cons.mp hp with rfl | hp
                · exact dJC
                · rcases List.mem_cons.mp hp with rfl | hp
                  · exact dJD
                  · exact dJn p hp
            refine ⟨its.size + 1 - (i + 1), by lia, h₆, tk₆, i + 1, ys', m₂, rfl, hlt', rfl, ⟨⟨oI, (N₆ (I, oI) List.mem_cons_self).1, hoI⟩, ⟨_, (N₆ _ (List.mem_cons_of_mem _ (List.mem_cons_of_mem _ (List.mem_cons_of_mem _ hax)))).1, rfl, _, rfl⟩⟩,
              fr_but F' hk₆ lJ zJ, hoC'.ns (N₆ (C, oC') (List.mem_cons_of_mem _ List.mem_cons_self)).1, fun p hp => N₆ p (List.mem_cons_of_mem _ (List.mem_cons_of_mem _ hp)), ?_⟩
            rw [pre_more _ hnn]
            exact hys'
        exact two_start1 (inner _ rfl) (W2.self 0 _ _ _ (by simpa using hJs) (inner _ rfl))
      · obtain rfl : i = its.size := Nat.le_antisymm hi (Nat.not_lt.mp hlt')
        refine W.done _ _ _ hst fun h₂ tk₂ hk₂ => ?_
        have F₂ := fr_but F' hk₂ lI zI
        have N₂ : News h₀ env.locals h₂ ((D, lst ys) :: news) := news_but N' hk₂ fun p hp => by
          rcases List.mem_cons.mp hp with rfl | hp
          · exact Ne.symm hID
          · exact dI p hp
        have hn₂ : h₂.Ns C m' := hn'.at' fun o e => hk₂ _ o (by simpa using Ne.symm hIC) e
        show wpAny _ A (assign (.Name y py) env (.ref D)) _ _ _
        refine wpAny_assign_Name (wpAny_storeName_local hy F₂.ns (fun h₃ hn₃ hs₃ => ?_) hp)
        have hL₀ : h₀.get? env.locals = none := Heap.get?_none_of_le F₂.above
        have F₃ : Fr h₀ env.locals h₃ (fun z => if z = y then some (.ref D) else m z) := ⟨hn₃, fun b o e => hs₃.extBut b o (fun q => by rw [q, hL₀] at e; cases e) (F₂.keep b o e), F₂.above⟩
        rw [hits, List.take_length] at hys
        refine ⟨m', hn₂.sameBut hs₃ lC, fun h'' hs'' => hfin D h'' _ ys ys.length (F₃.change hs'' lC zC) (fun p hp => ?_) (fun q hq => by have := hnlt q hq; rw [hD1]; exact Nat.lt_succ_of_lt this) hys⟩
        have z : h₃.get? p.1 = some p.2 := hs₃.extBut _ _ (N₂ p hp).2.1 (N₂ p hp).1
        refine ⟨hs''.extBut _ _ ?_ z, (N₂ p hp).2⟩
        rcases List.mem_cons.mp hp with rfl | hp
        · exact hDC
        · exact dC p hp
    · intro p hp
      rcases List.mem_cons.mp hp with rfl | hp
      · exact ⟨hacc, lD, zD⟩
      · exact N1 p hp
  refine codeAny_compStart_list (loop _ rfl) (W.self 0 _ _ _ ⟨⟨_, hold _ _ hIs, rfl, rfl⟩, ⟨_, hold _ _ (up _ _ (N _ hax).1), rfl, _, rfl⟩⟩ (loop _ rfl))
end
end Mine
end

section
open PySem PySem.W PyProof.Rows PySem.Spec PySem.Calls
set_option Elab.async false
namespace Mine
section
variable {prog : Program} {w : World} {A : Around} {E : Value → Shared → Prop} {s : Shared}
theorem bytes4 {t : Tok} {Q : Value → Shared → Prop} (hh : A.handled = none)
    (hQ : ∀ b t k, KBw.bInts b = List.replicate 4 0 → Q (.bytes b t) { s with toks := k }) :
    codeAny (model prog w) A (.call (.builtin "bytes.__new__") ⟨[.type "bytes", .int 4 t], []⟩) (wants Q E) s := by
  refine codeAny_of_tree ?_
  show wpAny _ A.in1 (do checkBuiltinCall "bytes.__new__" ⟨[.type "bytes", .int 4 t], []⟩; again (.builtin "bytes.__new__" ⟨[.type "bytes", .int 4 t], []⟩)) _ _ s
  refine wpAny_bind (wpAny_of_eq (F.bm_newCall _) (wpAny_pure ⟨plainId_quiet F.bm_plain _, codeAny_builtin F.bm_entry ?_⟩))
  rw [Around.under_plainId F.bm_plain _]
  have hT : s.TypeIs (.int 4 t) "int" := typeIs_int _ _ _
  unfold Builtin.«bytes.__new__»
  refine wpAny_bind (wpAny_of_eq (a := true) rfl ?_)
  refine bm_if_false rfl ?_
  refine wpAny_bind (wpAny_of_eq F.bm_sub ?_)
  refine bm_if_false rfl ?_
  refine wpAny_bind (wpAny_of_eq (F.bm_bind _) ?_)
  refine wpAny_bind (wpAny_of_eq (a := ()) rfl ?_)
  refine wpAny_bind (wpAny_of_eq (a := ()) rfl ?_)
  refine bm_if_false rfl ?_
  refine wpAny_bind (wpAny_specialOf hT int_no_bytes ?_)
  refine wpAny_bind (wpAny_of_eq (a := false) rfl ?_)
  refine bm_if_false rfl ?_
  refine wpAny_bind (wpAny_specialOf hT F.slot_int_index.lookup ?_)
  refine bm_if_false rfl ?_
  refine wpAny_bind (wpAny_attempt (wpAny_of_eq (a := (4 : Int)) rfl ?_))
  dsimp only
  refine bm_if_false (by decide) ?_
  rw [if_neg (by decide : ¬ ((4 : Int) < 0)), if_neg (by decide : ¬ ((4 : Int) > 2 ^ 63 - 34))]
  refine bm_if_false (by decide +kernel) ?_
  refine wpAny_bind (wpAny_rule ?_)
  refine wpAny_bind (wpAny_mkBytes ?_ (by decide +kernel))
  show wpAny _ _ (if (Value.type "bytes" == Value.type "bytes") = true then _ else _) _ _ _
  refine bm_if_true (by decide) ?_
  have e : KBw.bInts (Array.replicate 4 0) = List.replicate 4 0 := by decide +kernel
  first
    | exact wpAny_pure (hQ _ _ _ e)
    | exact wpAny_bind (wpAny_pure (wpAny_pure (hQ _ _ _ e)))
theorem j_bytes4 {t : Tok} {Q : Value → Shared → Prop} (hh : A.handled = none)
    (hQ : ∀ b t k, KBw.bInts b = List.replicate 4 0 → Q (.bytes b t) { s with toks := k }) : wpAny (model prog w) A (call (.type "bytes") [.int 4 t]) Q E s := by
  refine callType_codes (Q₁ := fun obj s₁ => s₁.TypeIs obj "bytes" ∧ Q obj s₁) F.bm_called (F.bm_typeCall _) F.entry_object_init
    (bytes4 hh fun b t k hk => ⟨PySem.W.typeIs_bytes _ _ _, hQ b t k hk⟩) fun obj s₁ h₁ => ?_
  exact ⟨h₁.1, F.args_object_init_2 obj _, object_init_meets F.bm_called.init.lookup F.bm_called.made (by decide) prog w A.in1 _ s₁ ⟨h₁.1, rfl, h₁.2⟩⟩
theorem ints_inj {a b : Array UInt8} {ks : List Int} (ha : KBw.bInts a = ks) (hb : KBw.bInts b = ks) : a.toList = b.toList := by
  unfold KBw.bInts at ha hb
  rw [← hb] at ha
  exact List.map_inj_right (fun x y (e : (x.toNat : Int) = (y.toNat : Int)) => UInt8.toNat_inj.mp (by lia)) |>.mp ha
theorem j_neb {a b : Array UInt8} {t u : Tok} {ks : List Int} {Q : Value → Shared → Prop} (ha : KBw.bInts a = ks) (hb : KBw.bInts b = ks) (h : Q (.bool false) s) :
    wpAny (model prog w) A (compareOp .NotEq (.bytes a t) (.bytes b u)) Q E s := by
  refine ne_bytes ?_
  have e : (a.toList != b.toList) = false := by rw [ints_inj ha hb]; simp
  rw [e]; exact h
end
theorem octP_congr {ps qs : List Int} (h : ∀ p, p ∈ ps ↔ p ∈ qs) : octP ps = octP qs := by
  have e1 := top_perm h
  have e2 : cnt ps = cnt qs := by unfold cnt; rw [e1]
  have e3 : toldP ps = toldP qs := by unfold toldP; rw [e2, wordsTo_congr h]
  unfold octP
  rw [e1, e3]
theorem top_snoc (l : List Int) (p : Int) : topOf (l ++ [p]) + 1 = max (topOf l + 1) (p + 1) := by
  have : topOf (l ++ [p]) = max (topOf l) p := by unfold topOf; rw [List.foldl_append]; rfl
  rw [this]; lia
theorem mem_addTo {xs : List Int} {p q : Int} : q ∈ addTo xs p ↔ q ∈ xs ∨ q = p := by
  unfold addTo
  split
  · constructor
    · exact .inl
    · rintro (h | h)
      · exact h
      · rw [h]; assumption
  · simp
noncomputable def pcnt (n : Int) : Nat := (1 + n.fmod 11).toNat
noncomputable def pfun (n : Int) (k : Nat) : Int := (n * 997).fmod 70001 + 64 * (k : Int)
theorem pcnt_le (n : Int) : pcnt n ≤ 11 := by
  unfold pcnt
  rw [Int.fmod_eq_emod_of_nonneg _ (by decide)]; lia
theorem pcnt_eq (n : Int) : 1 + n.fmod 11 = (pcnt n : Int) := by
  unfold pcnt
  rw [Int.fmod_eq_emod_of_nonneg _ (by decide)]; lia
theorem pcnt_big (n : Int) : pcnt n < 1152921504606846976 := by have := pcnt_le n; lia
theorem pgrid_len : ∀ ns : List Int, (ns.flatMap (grid pcnt pfun)).length ≤ 11 * ns.length
  | [] => Nat.le_refl _
  | n :: ns => by
    have h1 := pgrid_len ns
    have h2 := pcnt_le n
    have h3 : (grid pcnt pfun n).length = pcnt n := by unfold grid; rw [List.length_map, List.length_range]
    rw [List.flatMap_cons, List.length_append, h3, List.length_cons]; lia
theorem pgrid_mem {ns : List Int} {p : Int} (h : p ∈ ns.flatMap (grid pcnt pfun)) : ∃ n ∈ ns, ∃ k, k < 11 ∧ p = pfun n k := by
  obtain ⟨n, hn, hp⟩ := List.mem_flatMap.mp h
  unfold grid at hp
  obtain ⟨k, hk, e⟩ := List.mem_map.mp hp
  exact ⟨n, hn, k, Nat.lt_of_lt_of_le (List.mem_range.mp hk) (pcnt_le n), e.symm⟩
theorem pgrid_bounds {ns : List Int} {p : Int} (h : p ∈ ns.flatMap (grid pcnt pfun)) : 0 ≤ p ∧ p < 71000 := by
  obtain ⟨n, _, k, hk, rfl⟩ := pgrid_mem h
  unfold pfun
  rw [Int.fmod_eq_emod_of_nonneg _ (by decide)]; lia
noncomputable def resOf (n : Int) : Int := ((n * 997).fmod 70001).fmod 64
theorem pgrid_res {ns : List Int} {p : Int} (h : p ∈ ns.flatMap (grid pcnt pfun)) : p.fmod 64 ∈ ns.map resOf := by
  obtain ⟨n, hn, k, hk, rfl⟩ := pgrid_mem h
  refine List.mem_map.mpr ⟨n, hn, ?_⟩
  unfold pfun resOf
  rw [Int.fmod_eq_emod_of_nonneg _ (by decide), Int.fmod_eq_emod_of_nonneg _ (by decide), Int.fmod_eq_emod_of_nonneg _ (by decide)]
  lia
theorem all64 : ((List.range 64).map fun (i : Nat) => (i : Int)).Nodup := by decide +kernel
theorem not_full {xs R : List Int} (h : ∀ p ∈ xs, p.fmod 64 ∈ R) (hR : R.length ≤ 6) (j : Nat) : wordAt xs (j : Int) ≠ 18446744073709551615 := by
  intro e
  have hall : ∀ q ∈ (List.range 64).map (fun (i : Nat) => (i : Int)), q ∈ R := by
    intro q hq
    obtain ⟨i, hi, rfl⟩ := List.mem_map.mp hq
    have hi' := List.mem_range.mp hi
    have hb : (wordAt xs (j : Int)).testBit i = true := by
      rw [e, show (18446744073709551615 : Nat) = 2 ^ 64 - 1 by decide, Nat.testBit_two_pow_sub_one]
      exact decide_eq_true hi'
    obtain ⟨p, hp, _, h2⟩ := (wordAt_bit xs (j : Int) i).mp hb
    have h0 := Int.fmod_nonneg_of_pos p (show (0 : Int) < 64 by decide)
    have e2 : p.fmod 64 = (i : Int) := by lia
    rw [← e2]; exact h p hp
  have := nodup_sub_len all64 hall
  rw [List.length_map, List.length_range] at this
  lia
end Mine
end

section
open PySem PySem.W PyProof.Rows PySem.Spec PySem.Calls
namespace Mine
local macro_rules | `(tactic| walk_at $s:str) => `(tactic| k_extra $s)
local macro_rules | `(tactic| k_all) => `(tactic| assumption)
local macro_rules | `(tactic| k_all) => `(tactic| (refine allLt_ne ?_; first | assumption | exact And.right (by assumption) | exact And.right (And.right (by assumption)) | exact And.right (And.right (And.right (by assumption)))))
local macro_rules | `(tactic| k_mem) => `(tactic| first | assumption | exact List.mem_cons_self | (refine' List.mem_cons_of_mem _ ?_; k_mem))
local macro_rules | `(tactic| walk_at "j_lift") => `(tactic| (intro g' L' h' FG' F' N' B' X' T'; (try dsimp only); (try k_lift B'); (try k_fold)))
theorem lines_all : True := by
  (k_with "j_num" => (first | omega | (with_reducible assumption) | ((simp only [BE_len, flat_len, List.length_append, List.length_cons, List.length_nil]); omega)))
  (k_with "j_ints" => (first | assumption | exact IntsAre.cons _ _ IntsAre.nil | l_ints))
  (k_with "call ref" => first | ((k_here; (with_reducible show wpAny _ _ (call (Value.ref 64) [Value.ref _]) _ _ _); k_dflt (with_unfolding_all refine' enc_words ?zB ?zF ?zX ?zN ?zT ?zhk ?zhl ?zhi ?zhlen ?zhns ?_; (case zB => k_asm); (case zF => k_asm); (case zX => k_asm); (case zN => k_asm); (case zT => k_asm); (case zhk => exact rfl); (case zhl => k_mem); (case zhi => assumption); (case zhlen => assumption); (case zhns => assumption); k_whole); intro _ _ _ _ _ _ _ _ _; (try (rename_i jlt _; k_lt jlt; revert jlt; intro _)); (try k_sweep))) | fail "no")
  (k_with "call type:bytes" => first | ((k_here; (with_reducible show wpAny _ _ (call (Value.type "bytes") [Value.int 12 _]) _ _ _); k_dflt (refine' j_bytes12 ?zh ?_; (case zh => exact rfl); k_whole); intro _ _ _ _)) | fail "no")
  (k_with "binaryOp Mult ref int" => first | ((k_here; (with_reducible show wpAny _ _ (binaryOp Operator.Mult (Value.ref _) (Value.int _ _)) _ _ _); k_dflt (refine' j_mul0 ?zF ?zN ?zm ?za ?zb ?_; (case zF => k_asm); (case zN => k_asm); (case zm => k_mem); (case za => (walk_at "j_num")); (case zb => (walk_at "j_num")); k_whole); intro _ _ _ _ _ _; (try (rename_i jlt _; k_lt jlt; revert jlt; intro _)); (try k_sweep))) | fail "no")
  (k_with "setItem ref int" => first | ((k_here; (with_reducible show wpAny _ _ (setItem (Value.ref _) (Value.int _ _) (Value.int _ _)) _ _ _); k_dflt (refine' ksa_set ?zk1 ?zk2 ?zk3 ?zk4 ?zk5 ?zk6 ?zk7 ?_; (case zk1 => k_asm); (case zk2 => k_asm); (case zk3 => k_upd); (case zk4 => with_reducible assumption); (case zk5 => (walk_at "j_num")); (case zk6 => (walk_at "j_num")); (case zk7 => (walk_at "j_num")); k_whole); intro _ _ _ _ _ _; (try k_sweep))) | fail "no")
  (k_with "getItem ref int" => first | ((k_here; (with_reducible show wpAny _ _ (getItem (Value.ref _) (Value.int _ _)) _ _ _); k_dflt (refine' ksa_get ?zk1 ?zk2 ?zk3 ?zk4 ?zk5 ?zk6 ?_; (case zk1 => k_asm); (case zk2 => k_mem); (case zk3 => with_reducible assumption); (case zk4 => (walk_at "j_num")); (case zk5 => (walk_at "j_num")); (case zk6 => (walk_at "j_num")); k_whole); intro _)) | fail "no")
  (k_with "call type:set nil nil" => first | ((k_here; (with_reducible show wpAny _ _ (call (Value.type "set") []) _ _ _); k_dflt (refine' set_new ?zF ?zN ?_; (case zF => k_asm); (case zN => k_asm); k_whole); intro _ _ _ _ _ _ _; (try (rename_i jlt _; k_lt jlt; revert jlt; intro _)); (try k_sweep))) | fail "no")
  (k_with "getMethod ref" => first | ((k_here; (with_reducible show wpAny _ _ (getMethod (Value.ref _) _ _) _ _ _); k_dflt (with_reducible refine' set_method ?zN ?zm ?zP ?_; (case zN => k_asm); (case zm => k_mem); (case zP => assumption); k_whole))) | fail "no")
  (k_with "call builtin:set.add" => first | ((k_here; (with_reducible show wpAny _ _ (call (Value.builtin _) [Value.ref _, Value.int _ _]) _ _ _); k_dflt (refine' set_add ?zF ?zN ?zU ?zP ?zr ?_; (case zF => k_asm); (case zN => k_asm); (case zU => k_updF); (case zP => assumption); (case zr => assumption); k_whole); intro _ _ _ _ _; (try k_sweep))) | fail "no")
  (k_with "compareOp In int ref" => first | ((k_here; (with_reducible show wpAny _ _ (compareOp CmpOp.In (Value.int _ _) (Value.ref _)) _ _ _); k_dflt (refine' set_in ?zN ?zm ?zP ?_; (case zN => k_asm); (case zm => k_mem); (case zP => with_reducible assumption); k_whole))) | fail "no")
  (k_with "truthy ref" => first | ((k_here; (with_reducible show wpAny _ _ (truthy (Value.ref _)) _ _ _); k_dflt (refine' set_truth ?zN ?zm ?zP ?_; (case zN => k_asm); (case zm => k_mem); (case zP => assumption); k_whole); intro _)) | fail "no")
  (k_with "call builtin:max" => first | ((k_here; (with_reducible show wpAny _ _ (call (Value.builtin _) [Value.ref _]) _ _ _); k_dflt (refine' set_max ?zh ?zF ?zN ?zm ?zP ?za ?zb ?_; (case zh => exact rfl); (case zF => k_asm); (case zN => k_asm); (case zm => k_mem); (case zP => assumption); (case za => assumption); (case zb => assumption); k_whole); intro _ _ _ _ _ _; (try k_sweep))) | fail "no")
  (k_with "j_enter" => ((refine' code_def ?zk1 ?zk2 ?zk3 ?zk4 ?zk5 ?zkA ?zkF ?zkK ?zk6 ?zk7 ?zk8 ?zk9 ?zkB ?_ ?zc2 ?zc3 ?zc4 ?zc5; (case zkA => exact rfl); (case zkF => exact rfl); (case zkK => first | exact rfl | assumption); (case zk1 => k_asm); (case zk2 => k_asm); (case zk3 => k_asm); (case zk4 => k_asm); (case zk5 => k_asm); (case zk6 => k_is); (case zk7 => k_is); (case zk8 => first | k_room | ktr_room); (case zk9 => first | exact BindsTo.of_eq rfl | exact binds_K (by k_in) rfl (by k_is) rfl rfl rfl); (case zc5 => decide); (case zkB => exact locs rfl); (case zc2 => exact rfl); (case zc3 => exact rfl); (case zc4 => exact rfl); k_whole; walk_at "j_lift")))
  (k_with "binaryOp Add ref ref" => first | ((k_here; (with_reducible show wpAny _ _ (binaryOp _ (Value.ref _) (Value.ref _)) _ _ _); k_dflt (refine' j_cat ?zF ?zN ?za ?zb ?zi ?zj ?zz ?_; (case zF => k_asm); (case zN => k_asm); (case za => k_mem); (case zb => k_mem); (case zi => (walk_at "j_ints")); (case zj => (walk_at "j_ints")); (case zz => (walk_at "j_num")); k_whole); intro _ _ _ _ _ _; (try (rename_i jlt _; k_lt jlt; revert jlt; intro _)); (try k_sweep))) | fail "no")
  (k_with "call builtin:max" => first | ((k_here; (with_reducible show wpAny _ _ (call (Value.builtin _) [Value.ref _]) _ _ _); k_dflt (refine' j_top ?zF ?zN ?zm ?zi ?zh ?_; (case zF => k_asm); (case zN => k_asm); (case zm => k_mem); (case zi => assumption); (case zh => exact rfl); k_whole); intro _ _ _ _ _; (try k_sweep))) | fail "no")
  (k_with "call builtin:int.to_bytes" => first | ((k_here; (with_reducible show wpAny _ _ (call (Value.builtin "int.to_bytes") [Value.int _ _, Value.int 4 _, Value.str _ _]) _ _ _); k_dflt (refine' j_to4 ?zz ?zy ?_; (case zz => (walk_at "j_num")); (case zy => (walk_at "j_num")); k_whole); intro _ _ _ _)) | fail "no")
  (k_with "call builtin:int.to_bytes" => first | ((k_here; (with_reducible show wpAny _ _ (call (Value.builtin "int.to_bytes") [Value.int _ _, Value.int 8 _, Value.str _ _]) _ _ _); k_dflt (refine' j_to8 ?zz ?zy ?_; (case zz => (walk_at "j_num")); (case zy => (walk_at "j_num")); k_whole); intro _ _ _ _)) | fail "no")
  (k_with "binaryOp Add bytes bytes" => first | ((k_here; (with_reducible show wpAny _ _ (binaryOp _ (Value.bytes _ _) (Value.bytes _ _)) _ _ _); k_dflt (refine' j_addb ?za ?zb ?zz ?_; (case za => assumption); (case zb => assumption); (case zz => (walk_at "j_num")); k_whole); intro _ _ _)) | fail "no")
  (k_with "inplaceOp Add bytes bytes" => first | ((k_here; (with_reducible show wpAny _ _ (inplaceOp _ (Value.bytes _ _) (Value.bytes _ _)) _ _ _); k_dflt (refine' j_iaddb ?za ?zb ?zz ?_; (case za => assumption); (case zb => assumption); (case zz => (walk_at "j_num")); k_whole); intro _ _ _)) | fail "no")
  (k_with "call builtin:len" => first | ((k_here; (with_reducible show wpAny _ _ (call (Value.builtin "len") [Value.ref _]) _ _ _); k_dflt (refine' j_len ?zN ?zm ?zi ?zf ?_; (case zN => k_asm); (case zm => k_mem); (case zi => assumption); (case zf => omega); k_whole); (try simp only [List.length_append, List.length_cons, List.length_nil, Nat.zero_add]))) | fail "no")
  (k_with "subscriptTail" => first | ((k_here; (with_reducible show wpAny _ _ (subscriptTail _ _ (Value.ref _) (Value.int _ _)) _ _ _); k_dflt (refine' j_item ?zN ?zm ?zi ?za ?zb ?zf ?_ ?zs; (case zN => k_asm); (case zm => k_mem); (case zi => assumption); (case za => omega); (case zb => omega); (case zf => omega); (case zs => with_unfolding_all rfl); k_whole); intro _; (try simp only [Int.toNat_natCast]))) | fail "no")
  (k_with "call builtin:list.append" => first | ((k_here; (with_reducible show wpAny _ _ (call (Value.builtin _) [Value.ref _, Value.int _ _]) _ _ _); k_dflt (refine' j_append ?zF ?zN ?zi ?zU ?zz ?_; (case zF => k_asm); (case zN => k_asm); (case zU => k_upd); (case zi => assumption); (case zz => omega); k_whole); intro _ _ _ _; (try k_sweep))) | fail "no")
  (k_with "call builtin:list.extend" => first | ((k_here; (with_reducible show wpAny _ _ (call (Value.builtin _) [Value.ref _, Value.ref _]) _ _ _); k_dflt (refine' j_extend ?zF ?zN ?zb ?zi ?zj ?zU ?zz ?_; (case zF => k_asm); (case zN => k_asm); (case zb => k_mem); (case zU => (intro _; k_upd)); (case zi => assumption); (case zj => assumption); (case zz => (simp only [List.length_append, List.length_cons, List.length_nil]; omega)); k_whole); intro _ _ _ _ _; (try k_sweep))) | fail "no")
  (k_with "call builtin:list.append" => first | ((k_here; (with_reducible show wpAny _ _ (call (Value.builtin _) [Value.ref _, Value.ref _]) _ _ _); k_dflt (refine' j_appendR ?zF ?zN ?zU ?zz ?_; (case zF => k_asm); (case zN => k_asm); (case zU => k_upd); (case zz => (first | omega | (simp only [refsOf_length]; omega))); k_whole); intro _ _ _; (try k_sweep))) | fail "no")
  (k_with "truthy ref" => first | ((k_here; (with_reducible show wpAny _ _ (truthy (Value.ref _)) _ _ _); k_dflt (refine' j_truth ?zN ?zm ?zz ?_; (case zN => k_asm); (case zm => k_mem); (case zz => (first | omega | (simp only [refsOf_length, List.length_append, List.length_cons, List.length_nil]; omega))); k_whole); intro _; (try simp only [List.isEmpty_append, List.isEmpty_cons, List.isEmpty_nil, Bool.and_false, Bool.not_false, Bool.not_true]))) | fail "no")
  (k_with "subscriptTail" => first | ((k_here; (with_reducible show wpAny _ _ (subscriptTail _ _ (Value.ref _) (Value.int (-1) _)) _ _ _); k_dflt (refine' j_last ?zN ?zm ?zz ?_ ?zs; (case zN => k_asm); (case zm => k_mem); (case zz => (first | omega | (simp only [refsOf_length]; omega))); (case zs => with_unfolding_all rfl); k_whole))) | fail "no")
  (k_with "subscriptTail" => first | ((k_here; (with_reducible show wpAny _ _ (subscriptTail _ _ (Value.ref _) (Value.int 1 _)) _ _ _); k_dflt (refine' j_at1 ?zN ?zm ?_ ?zs; (case zN => k_asm); (case zm => k_mem); (case zs => with_unfolding_all rfl); k_whole))) | fail "no")
  (k_with "execs cons" => first | ((k_here; dsimp only; k_gentoks)) | fail "no")
  (k_with "execs nil" => first | ((k_here; dsimp only; k_gentoks)) | fail "no")
  (k_with "subscriptTail" => first | ((k_here; (with_reducible show wpAny _ _ (subscriptTail _ (Expr.Slice _ _ none _) (Value.bytes _ _) (Value.ref _)) _ _ _); (with_reducible rename Fr _ _ _ _ => F'); (with_reducible rename News _ _ _ _ => N'); k_dflt (refine' j_part (s := ⟨_, _, _, _, _⟩) F' N' ?zb ?zh1 ?zh2 ?zh3 ?zh4 ?zhz ?_ ?zhs ?zht; (case zb => assumption); (case zh1 => (walk_at "j_num")); (case zh2 => (walk_at "j_num")); (case zh3 => (walk_at "j_num")); (case zh4 => (walk_at "j_num")); (case zhz => (walk_at "j_num")); (case zhs => with_unfolding_all rfl); (case zht => (intro _; with_unfolding_all rfl)); k_whole); intro _ _ _ _ _ _ _ _ _ _; (try k_sweep))) | fail "no")
  (k_with "call ref" => first | ((k_here; (with_reducible show wpAny _ _ (call (Value.ref _) [Value.bytes _ _, Value.str _ _]) _ _ _); k_dflt (refine' j_frb ?zN ?zm ?zb ?zz ?_; (case zN => k_asm); (case zm => k_mem); (case zb => assumption); (case zz => (walk_at "j_num")); k_whole); intro _ _ _ _)) | fail "no")
  (k_with "binaryOp BitAnd int int" => first | ((k_here; (with_reducible show wpAny _ _ (binaryOp _ (Value.int _ _) (Value.int _ _)) _ _ _); k_dflt (refine' j_andE ?ze ?_; (case ze => with_reducible assumption); k_whole))) | fail "no")
  (k_with "binaryOp RShift int int" => first | ((k_here; (with_reducible show wpAny _ _ (binaryOp _ (Value.int _ _) (Value.int _ _)) _ _ _); k_dflt (refine' j_shrE ?zn ?ze ?_; (case zn => (walk_at "j_num")); (case ze => with_reducible assumption); k_whole))) | fail "no")
  (k_with "subscriptTail Name Name ref int" => first | ((k_here; (with_reducible show wpAny _ _ (subscriptTail _ _ (Value.ref _) (Value.int _ _)) _ _ _); k_dflt (refine' j_itemE ?zN ?zm ?zi ?ze ?zxa ?zxb ?zxc ?_ ?zs; (case zN => k_asm); (case zm => k_mem); (case zi => assumption); (case ze => with_reducible assumption); (case zxa => (walk_at "j_num")); (case zxb => (walk_at "j_num")); (case zxc => (walk_at "j_num")); (case zs => with_unfolding_all rfl); k_whole); intro _)) | fail "no")
  (k_with "call ref" => first | ((k_here; (with_reducible show wpAny _ _ (call (Value.ref 36) [Value.ref _, Value.int _ _]) _ _ _); k_dflt (with_unfolding_all refine' read_it ?zB ?zF ?zX ?zN ?zU ?zT ?zhk ?zhx ?zhd ?zhb ?zh1 ?zh2 ?zh3 ?zh4 ?zhz ?_; (case zB => k_asm); (case zF => k_asm); (case zX => k_asm); (case zN => k_asm); (case zT => k_asm); (case zhk => exact rfl); (case zhx => k_mem); (case zU => k_updF); (case zhd => first | assumption | (exact Nat.ne_of_lt (by assumption))); (case zhb => assumption); (case zh1 => (walk_at "j_num")); (case zh2 => (walk_at "j_num")); (case zh3 => (walk_at "j_num")); (case zh4 => (walk_at "j_num")); (case zhz => (walk_at "j_num")); k_whole); intro _ _ _ _ _ _ _ _ _ _ _; (try k_sweep))) | fail "no")
  (k_with "j_guard" => first | (((fail_if_success (with_reducible show wpAny _ _ (exec (Stmt.While _ _ _ _) _) _ _ _)); (fail_if_success (with_reducible show wpAny _ _ (exec (Stmt.For _ _ _ _ _) _) _ _ _)); (fail_if_success (with_reducible show wpAny _ _ (pyIter _) _ _ _)))) | fail "no")
  (k_with "j_steps" => first | (repeat' (first | (k_unfold; (try dsimp only)) | (k_end; wrow_close) | (walk_at "j_guard"; (first | walk1 | (dsimp only; walk1)); (try dsimp only)) | (leave1; walk_say "STEP leave1"; try dsimp only) | fail "no step")) | fail "no")
  trivial

set_option maxRecDepth 100000 in
set_option maxHeartbeats 8000000 in
theorem enc_words {w : World} {cn : Str} {cs : Scope} {a : Addr} {ccd : Value} {outer : List Env} {A₀ : Around} {base h₀ : Heap} {L l : Addr} {m : Str → Option Value} {news : List (Addr × Obj)} {s : Shared} {vs : List Value} {n : Nat} {ns : List Int} {mean : ExcName → Option Value} {mg mb : Str → Option Value}
    {Q E : Value → Shared → Prop} (B : Below A₀ base outer h₀) (F : Fr h₀ L s.heap m) (X : (hd.heap_39 w.params).In h₀) (N : News h₀ L s.heap news) (T : Top hd.view_39 Lz mean mg mb h₀) (hk : cs.kind = .function)
    (hl : (l, listOf vs.toArray n) ∈ news) (hi : IntsAre vs ns) (hlen : ns.length ≤ 1048576) (hns : ∀ j, j < ns.length → ns.getD j 0 ≠ 18446744073709551615)
    (hQ : ∀ r vs' n' h' tk, Fr h₀ L h' m → News h₀ L h' ((r, listOf vs'.toArray n') :: news) → (∀ p ∈ news, p.1 < r) → IntsAre vs' (toldOf (rowsS ns)) → Q (.ref r) { s with heap := h', toks := tk }) :
    wpAny (model Pg w) (atD 303 10 cn cs L a ccd outer) (call (.ref 64) [.ref l]) Q E s := by
  w_top off
  revert X
  show _ → wpAny (model PySem.Challenge.rw_jg0025_01.row.prog w) _ _ _ _ _
  k_fill
  intro X
  refine wpAny_call ?_
  k_dflt ktr_enter
  walk_at "j_steps"
  rename_i g' L' h3 FG B1 X1 T1 tk0 C h2 hC h1 tk1 h0 F1 N1
  k_dflt (refine' while_go (n₀ := ns.length)
              (fun n m₁ nw => ∃ (i : Nat) (cs : List Int) (vc : List Value) (nc : Nat) (t : Tok), m₁ "words" = some (.ref l) ∧ m₁ "compressed_words" = some (.ref C) ∧ m₁ "i" = some (.int i t) ∧ nw = (C, listOf vc.toArray nc) :: news ∧ IntsAre vc cs ∧ i ≤ ns.length ∧ n + i = ns.length ∧ cs = toldOf (rowsS (ns.take i)) ∧ (i = 0 ∨ i = ns.length ∨ (ns.getD i 0 = 0 ∧ Open0 (rowsS (ns.take i)))) ∧ cs.length ≤ 2 * i)
              (fun m₁ nw => ∃ (vc : List Value) (nc : Nat), m₁ "compressed_words" = some (.ref C) ∧ nw = (C, listOf vc.toArray nc) :: news ∧ IntsAre vc (toldOf (rowsS ns))) F1 N1 ?hJ ?turn ?done ?hE)
  case hJ => exact ⟨0, [], [], 0, _, rfl, rfl, rfl, rfl, .nil, Nat.zero_le _, by lia, rfl, .inl rfl, Nat.zero_le _⟩
  case hE => first | passes_own | with_unfolding_all passes_own
  case done =>
    rintro m₁ nw h₁ tk₁ ⟨vc, nc, e1, rfl, hc⟩ F₁ N₁
    replace F₁ := frL (bs := [("compressed_words", .ref C)]) F₁ ⟨e1, trivial⟩
    dsimp only [ovr] at F₁
    clear e1
    walk_at "j_steps"
    exact hQ _ _ _ _ _ (by assumption) (by assumption) hC hc
  case turn =>
    rintro n₁ m₁ nw h₁ tk₁ Y1 Z1 hY1 hB1 hZ1 F₁ N₁ ⟨i, cs, vc, nc, t, e1, e2, e3, rfl, hc, hi1, hn1, hcs, hst, hcl⟩
    replace F₁ := frL (bs := [("words", .ref l), ("compressed_words", .ref C), ("i", .int i t)]) F₁ ⟨e1, e2, e3, trivial⟩
    dsimp only [ovr] at F₁
    clear e1 e2 e3 N1 F1
    rcases Nat.lt_or_ge i ns.length with hlt | hge
    case inr =>
      walk_at "j_steps"
      refine hZ1 _ (Stands.mk (by assumption) (by assumption) ⟨vc, nc, rfl, rfl, ?_⟩)
      rw [hcs, List.take_of_length_le hge] at hc
      exact hc
    have hx := hns i hlt
    walk_at "j_steps"
    · -- a run of zeros
      (rename ns.getD i 0 = 0 => ha)
      (rename Fr _ _ _ _ => F2)
      (rename News _ _ _ _ => N2)
      rw [ha] at F2
      k_dflt (refine' while_go (n₀ := ns.length - i)
                (fun n m₁ nw => ∃ (z : Nat) (t1 t2 t3 : Tok), m₁ "words" = some (.ref l) ∧ m₁ "compressed_words" = some (.ref C) ∧ m₁ "i" = some (.int ((i + z : Nat) : Int) t1) ∧ m₁ "run_value" = some (.int 0 t2) ∧ m₁ "run_length" = some (.int z t3) ∧ nw = (C, listOf vc.toArray nc) :: news ∧ i + z ≤ ns.length ∧ n + (i + z) = ns.length ∧ (∀ j, j < z → ns.getD (i + j) 0 = 0))
                (fun m₁ nw => ∃ (z : Nat) (t1 t2 t3 : Tok), m₁ "words" = some (.ref l) ∧ m₁ "compressed_words" = some (.ref C) ∧ m₁ "i" = some (.int ((i + z : Nat) : Int) t1) ∧ m₁ "run_value" = some (.int 0 t2) ∧ m₁ "run_length" = some (.int z t3) ∧ nw = (C, listOf vc.toArray nc) :: news ∧ i + z ≤ ns.length ∧ 0 < z ∧ (∀ j, j < z → ns.getD (i + j) 0 = 0) ∧ (i + z = ns.length ∨ ns.getD (i + z) 0 ≠ 0)) F2 N2 ?hJ ?turn ?done ?hE)
      case hJ => exact ⟨0, _, _, _, rfl, rfl, rfl, rfl, rfl, rfl, by lia, by lia, fun j hj => absurd hj (Nat.not_lt_zero _)⟩
      case hE => first | passes_own | with_unfolding_all passes_own
      case turn =>
        rintro n₂ m₂ nw h₂ tk₂ Y2 Z2 hY2 hB2 hZ2 F₂ N₂ ⟨z, t1, t2, t3, e1, e2, e3, e4, e5, rfl, hz1, hn2, hz⟩
        replace F₂ := frL (bs := [("words", .ref l), ("compressed_words", .ref C), ("i", .int ((i + z : Nat) : Int) t1), ("run_value", .int 0 t2), ("run_length", .int z t3)]) F₂ ⟨e1, e2, e3, e4, e5, trivial⟩
        dsimp only [ovr] at F₂
        clear e1 e2 e3 e4 e5 N2 F2
        walk_at "j_steps"
        · refine hY2 _ (Stands.mk (by assumption) (by assumption) ⟨ns.length - (i + (z + 1)), by lia, z + 1, _, _, _, rfl, rfl, int_eq rfl (by lia), rfl, int_eq rfl (by lia), rfl, by lia, by lia, fun j hj => ?_⟩)
          rcases Nat.lt_or_ge j z with q | q
          · exact hz j q
          · have : j = z := by lia
            subst this
            assumption
        · refine hZ2 _ (Stands.mk (by assumption) (by assumption) ⟨z, _, _, _, rfl, rfl, rfl, rfl, rfl, rfl, hz1, ?_, hz, .inr (by assumption)⟩)
          (rename ns.getD (i + z) 0 ≠ 0 => hb)
          rcases Nat.eq_zero_or_pos z with q | q
          · subst q; exact absurd ha hb
          · exact q
        · exact hZ2 _ (Stands.mk (by assumption) (by assumption) ⟨z, _, _, _, rfl, rfl, rfl, rfl, rfl, rfl, hz1, by lia, hz, .inl (by lia)⟩)
      case done =>
        rintro m₂ nw h₂ tk₂ ⟨z, t1, t2, t3, e1, e2, e3, e4, e5, rfl, hz1, hz0, hz, hzend⟩ F₂ N₂
        replace F₂ := frL (bs := [("words", .ref l), ("compressed_words", .ref C), ("i", .int ((i + z : Nat) : Int) t1), ("run_value", .int 0 t2), ("run_length", .int z t3)]) F₂ ⟨e1, e2, e3, e4, e5, trivial⟩
        dsimp only [ovr] at F₂
        clear e1 e2 e3 e4 e5 N2 F2
        walk_at "j_steps"
        (rename Fr _ _ _ _ => F3)
        (rename News _ _ _ _ => N3)
        rename_i D h4 hD h5
        have hD' : ∀ p ∈ news, p.1 < D := kst_ltOf hD.2
        k_dflt (refine' while_go (n₀ := ns.length - (i + z))
                  (fun n m₁ nw => ∃ (k : Nat) (ls : List Int) (vl : List Value) (nl : Nat) (t1 t2 t3 : Tok), m₁ "words" = some (.ref l) ∧ m₁ "compressed_words" = some (.ref C) ∧ m₁ "literals" = some (.ref D) ∧ m₁ "i" = some (.int ((i + z + k : Nat) : Int) t1) ∧ m₁ "run_value" = some (.int 0 t2) ∧ m₁ "run_length" = some (.int z t3) ∧ nw = (D, listOf vl.toArray nl) :: (C, listOf vc.toArray nc) :: news ∧ IntsAre vl ls ∧ ls = (ns.drop (i + z)).take k ∧ ls.length = k ∧ i + z + k ≤ ns.length ∧ n + (i + z + k) = ns.length ∧ (∀ j, j < k → ns.getD (i + z + j) 0 ≠ 0))
                  (fun m₁ nw => ∃ (k : Nat) (ls : List Int) (vl : List Value) (nl : Nat) (t1 t2 t3 : Tok), m₁ "words" = some (.ref l) ∧ m₁ "compressed_words" = some (.ref C) ∧ m₁ "literals" = some (.ref D) ∧ m₁ "i" = some (.int ((i + z + k : Nat) : Int) t1) ∧ m₁ "run_value" = some (.int 0 t2) ∧ m₁ "run_length" = some (.int z t3) ∧ nw = (D, listOf vl.toArray nl) :: (C, listOf vc.toArray nc) :: news ∧ IntsAre vl ls ∧ ls = (ns.drop (i + z)).take k ∧ ls.length = k ∧ i + z + k ≤ ns.length ∧ (∀ j, j < k → ns.getD (i + z + j) 0 ≠ 0) ∧ (i + z + k = ns.length ∨ ns.getD (i + z + k) 0 = 0)) F3 N3 ?hJ ?turn ?done ?hE)
        case hJ => exact ⟨0, [], [], 0, _, _, _, rfl, rfl, rfl, rfl, rfl, rfl, rfl, .nil, rfl, rfl, by lia, by lia, fun j hj => absurd hj (Nat.not_lt_zero _)⟩
        case hE => first | passes_own | with_unfolding_all passes_own
        case turn =>
          rintro n₃ m₃ nw h₃ tk₃ Y3 Z3 hY3 hB3 hZ3 F₃ N₃ ⟨k, ls, vl, nl, t4, t5, t6, e1, e2, e3, e4, e5, e6, rfl, hvl, hls, hlk, hk1, hn3, hk⟩
          replace F₃ := frL (bs := [("words", .ref l), ("compressed_words", .ref C), ("literals", .ref D), ("i", .int ((i + z + k : Nat) : Int) t4), ("run_value", .int 0 t5), ("run_length", .int z t6)]) F₃ ⟨e1, e2, e3, e4, e5, e6, trivial⟩
          dsimp only [ovr] at F₃
          clear e1 e2 e3 e4 e5 e6 N3 F3
          rcases Nat.lt_or_ge (i + z + k) ns.length with hlt3 | hge3
          case inr =>
            walk_at "j_steps"
            exact hZ3 _ (Stands.mk (by assumption) (by assumption) ⟨k, ls, vl, nl, _, _, _, rfl, rfl, rfl, rfl, rfl, rfl, rfl, hvl, hls, hlk, hk1, hk, .inl (by lia)⟩)
          have hx3 := hns _ hlt3
          walk_at "j_steps"
          · refine hY3 _ (Stands.mk (by assumption) (by assumption) ⟨ns.length - (i + z + (k + 1)), by lia, k + 1, _, _, _, _, _, _, rfl, rfl, rfl, int_eq rfl (by lia), rfl, rfl, rfl, (by assumption), ?_, by rw [List.length_append, hlk]; rfl, by lia, by lia, fun j hj => ?_⟩)
            · rw [hls, ← take_more hlt3]
            · rcases Nat.lt_or_ge j k with q | q
              · exact hk j q
              · have : j = k := by lia
                subst this
                assumption
          · exact absurd (by assumption) hx3
          · exact hZ3 _ (Stands.mk (by assumption) (by assumption) ⟨k, ls, vl, nl, _, _, _, rfl, rfl, rfl, rfl, rfl, rfl, rfl, hvl, hls, hlk, hk1, hk, .inr (by assumption)⟩)
        case done =>
          rintro m₃ nw h₃ tk₃ ⟨k, ls, vl, nl, t4, t5, t6, e1, e2, e3, e4, e5, e6, rfl, hvl, hls, hlk, hk1, hk, hend⟩ F₃ N₃
          replace F₃ := frL (bs := [("words", .ref l), ("compressed_words", .ref C), ("literals", .ref D), ("i", .int ((i + z + k : Nat) : Int) t4), ("run_value", .int 0 t5), ("run_length", .int z t6)]) F₃ ⟨e1, e2, e3, e4, e5, e6, trivial⟩
          dsimp only [ovr] at F₃
          clear e1 e2 e3 e4 e5 e6 N3 F3
          walk_at "j_steps"
          (rename Fr _ _ _ _ => F4)
          (rename News _ _ _ _ => N4)
          (rename IntsAre _ (_ ++ ls) => hc4)
          have hopen : Open0 (rowsS (ns.take i)) := by
            rcases hst with q | q | q
            · subst q; intro z' R' e; cases e
            · lia
            · exact q.2
          have hrow := rows_step hk1 hz hk hopen (.inl hz0)
          rw [← hls] at hrow
          have hmark : Builtin.bitOr (Builtin.bitOr ((ls.length : Int) * 2 ^ Int.toNat 33) ((z : Int) * 2 ^ Int.toNat 1)) 0 = mark (z, ls) := by
            rw [bitOr_zero]
            exact bitOr_mark ls.length z (by lia)
          refine hY1 _ (Stands.mk F4 (fun p hp => N4 p (List.mem_cons_of_mem _ hp)) ⟨ns.length - (i + z + k), by lia, i + z + k, _, _, _, _, rfl, rfl, rfl, rfl, hc4, hk1, by lia, ?_, ?_, ?_⟩)
          · rw [hrow, toldOf_cons, hcs, hmark]; simp
          · by_cases hq : i + z + k = ns.length
            · exact .inr (.inl hq)
            · have q := hend.resolve_left hq
              refine .inr (.inr ⟨q, ?_⟩)
              rw [hrow]
              intro z' R' e
              injection e with e _
              injection e with _ e
              have hk0 : k = 0 := by rw [← hlk, e]; rfl
              subst hk0
              rcases hzend with h | h
              · exact hq h
              · exact h q
          · simp only [List.length_append, List.length_cons, List.length_nil]; lia
    · exact absurd (by assumption) hx
    · -- no run: the first words hold bits
      (rename ns.getD i 0 ≠ 0 => ha)
      (rename Fr _ _ _ _ => F3)
      (rename News _ _ _ _ => N3)
      rename_i D h4 hD h5
      have hi0 : i = 0 := by
        rcases hst with q | q | q
        · exact q
        · lia
        · exact absurd q.1 ha
      subst hi0
      k_dflt (refine' while_go (n₀ := ns.length)
                  (fun n m₁ nw => ∃ (k : Nat) (ls : List Int) (vl : List Value) (nl : Nat) (t1 : Tok), m₁ "words" = some (.ref l) ∧ m₁ "compressed_words" = some (.ref C) ∧ m₁ "literals" = some (.ref D) ∧ m₁ "i" = some (.int ((k : Nat) : Int) t1) ∧ nw = (D, listOf vl.toArray nl) :: (C, listOf vc.toArray nc) :: news ∧ IntsAre vl ls ∧ ls = ns.take k ∧ ls.length = k ∧ k ≤ ns.length ∧ n + k = ns.length ∧ (∀ j, j < k → ns.getD j 0 ≠ 0))
                  (fun m₁ nw => ∃ (k : Nat) (ls : List Int) (vl : List Value) (nl : Nat) (t1 : Tok), m₁ "words" = some (.ref l) ∧ m₁ "compressed_words" = some (.ref C) ∧ m₁ "literals" = some (.ref D) ∧ m₁ "i" = some (.int ((k : Nat) : Int) t1) ∧ nw = (D, listOf vl.toArray nl) :: (C, listOf vc.toArray nc) :: news ∧ IntsAre vl ls ∧ ls = ns.take k ∧ ls.length = k ∧ k ≤ ns.length ∧ (∀ j, j < k → ns.getD j 0 ≠ 0) ∧ (k = ns.length ∨ ns.getD k 0 = 0)) F3 N3 ?hJ ?turn ?done ?hE)
      case hJ => exact ⟨0, [], [], 0, _, rfl, rfl, rfl, rfl, rfl, .nil, rfl, rfl, by lia, by lia, fun j hj => absurd hj (Nat.not_lt_zero _)⟩
      case hE => first | passes_own | with_unfolding_all passes_own
      case turn =>
          rintro n₃ m₃ nw h₃ tk₃ Y3 Z3 hY3 hB3 hZ3 F₃ N₃ ⟨k, ls, vl, nl, t4, e1, e2, e3, e4, rfl, hvl, hls, hlk, hk1, hn3, hk⟩
          replace F₃ := frL (bs := [("words", .ref l), ("compressed_words", .ref C), ("literals", .ref D), ("i", .int ((k : Nat) : Int) t4)]) F₃ ⟨e1, e2, e3, e4, trivial⟩
          dsimp only [ovr] at F₃
          clear e1 e2 e3 e4 N3 F3
          rcases Nat.lt_or_ge k ns.length with hlt3 | hge3
          case inr =>
            walk_at "j_steps"
            exact hZ3 _ (Stands.mk (by assumption) (by assumption) ⟨k, ls, vl, nl, _, rfl, rfl, rfl, rfl, rfl, hvl, hls, hlk, hk1, hk, .inl (by lia)⟩)
          have hx3 := hns _ hlt3
          walk_at "j_steps"
          · refine hY3 _ (Stands.mk (by assumption) (by assumption) ⟨ns.length - (k + 1), by lia, k + 1, _, _, _, _, rfl, rfl, rfl, int_eq rfl (by lia), rfl, (by assumption), ?_, by rw [List.length_append, hlk]; rfl, by lia, by lia, fun j hj => ?_⟩)
            · rw [hls]
              have := take_more (ns := ns) (j := 0) (k := k) (by lia)
              simp only [List.drop_zero, Nat.zero_add] at this
              exact this.symm
            · rcases Nat.lt_or_ge j k with q | q
              · exact hk j q
              · have : j = k := by lia
                subst this
                assumption
          · exact absurd (by assumption) hx3
          · exact hZ3 _ (Stands.mk (by assumption) (by assumption) ⟨k, ls, vl, nl, _, rfl, rfl, rfl, rfl, rfl, hvl, hls, hlk, hk1, hk, .inr (by assumption)⟩)
      case done =>
          rintro m₃ nw h₃ tk₃ ⟨k, ls, vl, nl, t4, e1, e2, e3, e4, rfl, hvl, hls, hlk, hk1, hk, hend⟩ F₃ N₃
          replace F₃ := frL (bs := [("words", .ref l), ("compressed_words", .ref C), ("literals", .ref D), ("i", .int ((k : Nat) : Int) t4)]) F₃ ⟨e1, e2, e3, e4, trivial⟩
          dsimp only [ovr] at F₃
          clear e1 e2 e3 e4 N3 F3
          walk_at "j_steps"
          (rename Fr _ _ _ _ => F4)
          (rename News _ _ _ _ => N4)
          (rename IntsAre _ (_ ++ ls) => hc4)
          have hk0 : 0 < k := by
            rcases hend with q | q
            · lia
            · rcases Nat.eq_zero_or_pos k with z | z
              · subst z; exact absurd q ha
              · exact z
          have hrow := rows_step (ns := ns) (i := 0) (z := 0) (k := k) (by lia) (fun j hj => absurd hj (Nat.not_lt_zero _)) (by simpa using hk) (fun z' R' e => by cases e) (.inr ⟨rfl, hk0⟩)
          simp only [Nat.zero_add, List.drop_zero] at hrow
          rw [← hls] at hrow
          have hmark : Builtin.bitOr (Builtin.bitOr ((ls.length : Int) * 2 ^ Int.toNat 33) (0 * 2 ^ Int.toNat 1)) 0 = mark (0, ls) := by
            rw [bitOr_zero]
            exact bitOr_mark ls.length 0 (by lia)
          refine hY1 _ (Stands.mk F4 (fun p hp => N4 p (List.mem_cons_of_mem _ hp)) ⟨ns.length - k, by lia, k, _, _, _, _, rfl, rfl, rfl, rfl, hc4, hk1, by lia, ?_, ?_, ?_⟩)
          · rw [← hls, hrow, toldOf_cons, hcs, hmark]; simp
          · rcases hend with q | q
            · exact .inr (.inl q)
            · refine .inr (.inr ⟨q, ?_⟩)
              rw [← hls, hrow]
              intro z' R' e
              injection e with e _
              injection e with _ e
              rw [e] at hlk
              simp only [List.length_nil] at hlk
              lia
          · simp only [List.length_append, List.length_cons, List.length_nil]; lia

theorem fr_at {h₀ h : Heap} {L : Addr} {m m' : Str → Option Value} (F : Fr h₀ L h m) (e : m = m') : Fr h₀ L h m' := e ▸ F
theorem news_swap {h₀ h : Heap} {L : Addr} {p q : Addr × Obj} {r : List (Addr × Obj)} (N : News h₀ L h (p :: q :: r)) : News h₀ L h ([q] ++ (p :: r)) := fun x hx => N x (by
  rcases List.mem_cons.mp hx with e | hx
  · rw [e]; exact List.mem_cons_of_mem _ List.mem_cons_self
  · rcases List.mem_cons.mp hx with e | hx
    · rw [e]; exact List.mem_cons_self
    · exact List.mem_cons_of_mem _ (List.mem_cons_of_mem _ hx))
/-- a bitmap's fields -/
noncomputable abbrev bmO (w : World) (t1 t2 tn : Tok) (S : Addr) (n : Int) : Obj := dictOf [{ hash := PyData.keyHash w.params (Str.ofString "bits"), key := .str (Str.ofString "bits") t1, val := .ref S }, { hash := PyData.keyHash w.params (Str.ofString "bit_count"), key := .str (Str.ofString "bit_count") t2, val := .int n tn }] 2
/-- a stream's fields -/
noncomputable abbrev ioO (w : World) (t1 t2 tb tn : Tok) (b : Array UInt8) (n : Int) : Obj := dictOf [{ hash := PyData.keyHash w.params (Str.ofString "data"), key := .str (Str.ofString "data") t1, val := .bytes b tb }, { hash := PyData.keyHash w.params (Str.ofString "place"), key := .str (Str.ofString "place") t2, val := .int n tn }] 2
set_option maxRecDepth 100000 in
set_option maxHeartbeats 8000000 in
theorem enc_it {w : World} {cn : Str} {cs : Scope} {a : Addr} {ccd : Value} {outer : List Env} {A₀ : Around} {base h₀ : Heap} {L x d S : Addr} {m : Str → Option Value} {news : List (Addr × Obj)} {s : Shared} {so : Obj} {xs : List Int} {n : Int} {t1 t2 tn : Tok} {mean : ExcName → Option Value} {mg mb : Str → Option Value}
    {Q E : Value → Shared → Prop} (B : Below A₀ base outer h₀) (F : Fr h₀ L s.heap m) (X : (hd.heap_39 w.params).In h₀) (N : News h₀ L s.heap news) (T : Top hd.view_39 Lz mean mg mb h₀) (hk : cs.kind = .function)
    (hx : (x, instObj 145 d) ∈ news) (hb : (d, bmO w t1 t2 tn S n) ∈ news) (hs : (S, so) ∈ news) (hP : SetP w so xs) (hxs : ∀ p ∈ xs, 0 ≤ p ∧ p < 71000) (hfull : ∀ j : Nat, wordAt xs j ≠ 18446744073709551615)
    (hQ : ∀ b t h' tk dr, Fr h₀ L h' m → News h₀ L h' news → KBw.bInts b = octP xs ++ BE 4 0 → Q (.bytes b t) { s with heap := h', toks := tk, drawn := dr }) :
    wpAny (model Pg w) (atD 302 7 cn cs L a ccd outer) (call (.ref 93) [.ref x]) Q E s := by
  w_top off
  revert X
  show _ → wpAny (model PySem.Challenge.rw_jg0025_01.row.prog w) _ _ _ _ _
  k_fill
  intro X
  refine wpAny_call ?_
  k_dflt (walk_at "j_enter")
  have hx0 : ∀ p ∈ xs, 0 ≤ p := fun p hp => (hxs p hp).1
  (rename Fr _ _ _ (fun y => List.lookup y _) => F1)
  replace F1 := fr_at (m' := fun y => List.lookup y [("self", Value.ref x)]) F1 (by with_unfolding_all rfl)
  by_cases hne : xs = []
  · subst hne
    walk_at "j_steps"
    refine hQ _ _ _ _ _ (by assumption) (by assumption) ?_
    (rename KBw.bInts _ = _ => hbi)
    rw [hbi]; decide +kernel
  · have hemp : xs.isEmpty = false := by cases xs with
      | nil => exact absurd rfl hne
      | cons _ _ => rfl
    have htm := hxs _ (top_mem hx0 hne)
    have hcf := cnt_fdiv xs
    have hcb : (topOf xs + 1 + 63).fdiv 64 ≤ 1048576 := by rw [Int.fdiv_eq_ediv_of_nonneg _ (by decide)]; lia
    have hc0 : 0 ≤ (topOf xs + 1 + 63).fdiv 64 := by rw [Int.fdiv_eq_ediv_of_nonneg _ (by decide)]; lia
    walk_at "j_steps"
    rename_i tz lz hz hlz W h9 hint hW h10 F9 N9
    rw [hcf, Int.toNat_natCast] at N9 hint
    rw [wordsTo_nil] at hint
    replace N9 : News _ _ _ ((W, listOf (List.replicate (cnt xs) (Value.int 0 tz)).toArray 0) :: news) := fun p hp => N9 p (by
      rcases List.mem_cons.mp hp with e | hp
      · rw [e]; exact List.mem_cons_self
      · exact List.mem_cons_of_mem _ (List.mem_cons_of_mem _ hp))
    have N9' : News _ _ _ ([(W, listOf (List.replicate (cnt xs) (Value.int 0 tz)).toArray 0)] ++ news) := N9
    have hWm : ∀ q ∈ news, q.1 ≠ W := allLt_ne hW.2
    have hB : ∀ p ∈ xs, p.fdiv 64 < (cnt xs : Int) := fun p hp => cnt_bound (hx0 p hp) hp
    have hcl : cnt xs ≤ 1048576 := by lia
    (with_unfolding_all refine' For_invVF F9 ?k1 ?k2 ?_)
    case k1 => exact rfl
    case k2 => exact rfl
    walk_at "j_steps"
    k_dflt (refine' iter_set (chg₀ := [(W, listOf (List.replicate (cnt xs) (Value.int 0 tz)).toArray 0)]) (fixed := news) (sa := S) (so := so)
              (fun pre m₁ chg => ∃ (us : List Value) (c : Nat) (tb : Tok), m₁ "words" = some (.ref W) ∧ m₁ "bit_count" = some (.int (topOf xs + 1) tb) ∧ chg = [(W, listOf us.toArray c)] ∧ IntsAre us (wordsTo pre (cnt xs)))
              rfl (by assumption) N9' hs hP ?hJ ?ap ?turn ?done)
    case hJ => exact ⟨_, 0, _, rfl, rfl, rfl, hint⟩
    case ap => exact fun p hp q hq => by rw [List.mem_singleton.mp hp]; exact hWm q hq
    case turn =>
      rintro I fp k t pre m₁ chg h₁ tk₁ d₁ tl hkx hpl ⟨us, c, tb, e1, e2, rfl, hus⟩ hne₁ hT F₁ N₁
      have e3 : (fun y => if y = Str.ofString "bit" then some (Value.int k t) else m₁ y) "words" = some (.ref W) := e1
      have e4 : (fun y => if y = Str.ofString "bit" then some (Value.int k t) else m₁ y) "bit_count" = some (.int (topOf xs + 1) tb) := e2
      replace F₁ := frL (bs := [("words", .ref W), ("bit_count", .int (topOf xs + 1) tb)]) F₁ ⟨e3, e4, trivial⟩
      replace N₁ : News _ _ h₁ ((W, listOf us.toArray c) :: tl) := N₁
      dsimp only [ovr] at F₁
      dsimp only at hT hne₁
      have hWt : ∀ q ∈ tl, q.1 ≠ W := hT.off _ List.mem_cons_self
      have hk0 := hx0 k hkx
      have hkB := hB k hkx
      have hkd : 0 ≤ k.fdiv 64 := by rw [Int.fdiv_eq_ediv_of_nonneg _ (by decide)]; lia
      have hkl : k.fdiv 64 < ((wordsTo pre (cnt xs)).length : Int) := by rw [wordsTo_len]; exact hkB
      clear e1 e2 e3 e4 F9 N9 N9'
      refine wp_gen fun Qg hQg => ?_
      walk_at "j_steps"
      refine hQg _ _ ?_
      refine Turn.mk [(W, _)] (by assumption) (by assumption) (fun p hp => ?_) ⟨_, _, _, rfl, rfl, rfl, ?_⟩
      · rw [List.mem_singleton.mp hp]; exact hne₁ (W, listOf us.toArray c) List.mem_cons_self
      · rw [← wordsTo_set hk0 hkB]; assumption
    case done =>
      rintro ks m₁ chg h₁ tk₁ d₁ hperm ⟨us, c, tb, e1, e2, rfl, hus⟩ F₁ N₁
      rw [wordsTo_congr (fun p => hperm.mem_iff)] at hus
      have hwl : (wordsTo xs (cnt xs)).length ≤ 1048576 := by rw [wordsTo_len]; exact hcl
      have hwn : ∀ j, j < (wordsTo xs (cnt xs)).length → (wordsTo xs (cnt xs)).getD j 0 ≠ 18446744073709551615 := fun j hj => by
        rw [wordsTo_len] at hj
        rw [wordsTo_get xs hj]
        have := hfull j
        lia
      replace F₁ := frL (bs := [("words", .ref W), ("bit_count", .int (topOf xs + 1) tb)]) F₁ ⟨e1, e2, trivial⟩
      replace N₁ : News _ _ h₁ ((W, listOf us.toArray c) :: news) := N₁
      dsimp only [ovr] at F₁
      clear e1 e2 F9 N9 N9'
      have hz : KBw.bInts (#[] : Array UInt8) = [] := rfl
      have hcn : cnt xs ≤ 1200 := by unfold cnt; lia
      have htl : (toldOf (rowsS (wordsTo xs (cnt xs)))).length ≤ 2400 := by
        have := told_len (wordsTo xs (cnt xs))
        rw [wordsTo_len] at this; lia
      have htb := told_bounds (ws := wordsTo xs (cnt xs)) (fun x hx => wordsTo_mem hx) (by rw [wordsTo_len]; lia)
      walk_at "j_steps"
      rename_i _ _ _ _ _ _ _ _ _ _ _ _ _ _ _ _ _ _ _ _ _ _ r5 vs5 n5 _ _ hvs5 hr5 _ _ x5 d5 _ hd5 hx5 _ _ _ _ _ _ _ _ _ _ _ _ _ _ _ _ _ _ _ _ _ b5 _ _ hb5 _ _ _ _ _ _ _ _ _ _ _ _ _ _ _ _ _ _ _ _ _ c5 _ _ _ _ _ _ _ _ _ _ _ _ _ hc5 h5 _ _ F5 N5 _ _
      replace hc5 : KBw.bInts (#[] ++ b5 ++ c5) = BE 4 (topOf xs + 1) ++ BE 4 (toldP xs).length := hc5
      replace N5 := news_swap N5
      have hvs6 : IntsAre vs5 (toldP xs) := hvs5
      have htb' : ∀ x ∈ toldP xs, 0 ≤ x ∧ x < 18446744073709551616 := htb
      have htl' : (toldP xs).length ≤ 2400 := htl
      (with_unfolding_all refine' For_invVF F5 ?k1 ?k2 ?_)
      case k1 => exact rfl
      case k2 => exact rfl
      walk1
      k_dflt (refine' iter_lst (la := r5)
                (fun i m₁ chg => ∃ (b : Array UInt8) (ta tb tc tn : Tok), m₁ "f" = some (.ref x5) ∧ chg = [(d5, ioO w ta tc tb tn b 0)] ∧ KBw.bInts b = (BE 4 (topOf xs + 1) ++ BE 4 (toldP xs).length) ++ ((toldP xs).take i).flatMap (BE 8))
                rfl F5 N5 (List.mem_cons_of_mem _ List.mem_cons_self) hvs6 ?hJ ?ap ?turn ?done)
      case hJ => exact ⟨_, _, _, _, _, rfl, rfl, by rw [hc5]; exact (List.append_nil _).symm⟩
      case ap =>
        intro p hp q hq
        rw [List.mem_singleton.mp hp]
        dsimp only
        rcases List.mem_cons.mp hq with e | hq
        · rw [e]; exact Ne.symm (Nat.ne_of_lt hx5)
        · rcases List.mem_cons.mp hq with e | hq
          · rw [e]; exact Nat.ne_of_lt hd5.1
          · rcases List.mem_cons.mp hq with e | hq
            · rw [e]; exact Nat.ne_of_lt hd5.2.1
            · exact Nat.ne_of_lt (kst_ltOf hd5.2.2 q hq)
      case turn =>
        rintro i x0 t0 m₃ chg h₃ tk₃ tl hget ⟨b, ta, tb, tc, tn, e1, rfl, hb⟩ hne hT F₃ N₃
        obtain ⟨hx0, hx1⟩ := htb' x0 (List.mem_of_getElem? hget)
        have hil : i < (toldP xs).length := (List.getElem?_eq_some_iff.mp hget).1
        have hsz4 : ((BE 4 (topOf xs + 1) ++ BE 4 (toldP xs).length) ++ ((toldP xs).take i).flatMap (BE 8)).length + (BE 8 x0).length ≤ 16777216 := by
          simp only [BE_len, flat_len, List.length_append, List.length_take]; lia
        have e3 : (fun y => if y = Str.ofString "word" then some (Value.int x0 t0) else m₃ y) "f" = some (.ref x5) := e1
        dsimp only at hT hne
        have hxt : (x5, instObj 53 d5) ∈ tl := hT.sub _ List.mem_cons_self
        have hoff : ∀ q ∈ tl, q.1 ≠ d5 := hT.off _ List.mem_cons_self
        replace F₃ := frL (bs := [("f", .ref x5)]) F₃ ⟨e3, trivial⟩
        replace N₃ : News _ _ h₃ ((d5, ioO w ta tc tb tn b 0) :: tl) := N₃
        dsimp only [ovr] at F₃
        clear e1 e3 F5 N5
        refine wp_gen fun Qg hQg => ?_
        walk_at "j_steps"
        (rename Fr _ _ _ _ => F7)
        (rename News _ _ _ _ => N7)
        refine hQg _ _ ?_
        refine Turn.mk [(d5, _)] F7 N7 (fun p hp => ?_) ⟨_, _, _, _, _, rfl, rfl, ?_⟩
        · rw [List.mem_singleton.mp hp]; exact hne (d5, ioO w ta tc tb tn b 0) List.mem_cons_self
        · rw [List.take_add_one, hget, List.flatMap_append, ← List.append_assoc]
          simp only [Option.toList_some, List.flatMap_cons, List.flatMap_nil, List.append_nil]
          assumption
      case done =>
        rintro m₃ chg h₃ tk₃ ⟨b, ta, tb, tc, tn, e1, rfl, hb⟩ F₃ N₃
        rw [List.take_length] at hb
        replace F₃ := frL (bs := [("f", .ref x5)]) F₃ ⟨e1, trivial⟩
        dsimp only [ovr] at F₃
        clear e1 F5 N5
        have hsz5 : ((BE 4 (topOf xs + 1) ++ BE 4 (toldP xs).length) ++ (toldP xs).flatMap (BE 8)).length + (BE 4 0).length ≤ 16777216 := by
          simp only [BE_len, flat_len, List.length_append]; lia
        walk_at "j_steps"
        (rename Fr _ _ _ _ => F7)
        (rename News _ _ _ _ => N7)
        refine hQ _ _ _ _ _ F7 (fun p hp => N7 p (List.mem_cons_of_mem _ (List.mem_cons_of_mem _ (List.mem_cons_of_mem _ (List.mem_cons_of_mem _ hp))))) ?_
        (rename KBw.bInts (b ++ _) = _ => hfin)
        exact hfin

theorem news_place {h₀ h : Heap} {L : Addr} {q : Addr × Obj} {pre post : List (Addr × Obj)} (N : News h₀ L h (q :: (pre ++ post))) : News h₀ L h (pre ++ q :: post) := fun x hx => N x (by
  simp only [List.mem_append, List.mem_cons] at hx ⊢
  rcases hx with h | h | h <;> simp [h])
set_option maxRecDepth 100000 in
set_option maxHeartbeats 8000000 in
theorem read_it {w : World} {cn : Str} {cs : Scope} {a : Addr} {ccd : Value} {outer : List Env} {A₀ : Around} {base h₀ : Heap} {L x d : Addr} {m : Str → Option Value} {news : List (Addr × Obj)} {g : Obj → List (Addr × Obj)} {s : Shared} {ks : List Int} {p k : Int} {t1 t2 tn tb tk0 : Tok} {b : Array UInt8} {mean : ExcName → Option Value} {mg mb : Str → Option Value}
    {Q E : Value → Shared → Prop} (B : Below A₀ base outer h₀) (F : Fr h₀ L s.heap m) (X : (hd.heap_39 w.params).In h₀) (N : News h₀ L s.heap news) (U : UpdF d (ioO w t1 t2 tb tn b p) news g) (T : Top hd.view_39 Lz mean mg mb h₀) (hk : cs.kind = .function)
    (hx : (x, instObj 53 d) ∈ news) (hxd : d ≠ x) (hb : KBw.bInts b = ks) (h1 : 0 ≤ p) (h2 : 0 ≤ k) (h3 : p + k ≤ ks.length) (h4 : p ≠ 0 ∨ p + k ≠ ks.length) (hz : ks.length ≤ 1048576)
    (hQ : ∀ bs ks' tn' t' h' tk, Fr h₀ L h' m → News h₀ L h' (g (ioO w t1 t2 tb tn' b (p + k))) → KBw.bInts bs = ks' → ks' = (ks.drop p.toNat).take k.toNat → (ks'.length : Int) = k → Q (.bytes bs t') { s with heap := h', toks := tk }) :
    wpAny (model Pg w) (atD 305 14 cn cs L a ccd outer) (call (.ref 36) [.ref x, .int k tk0]) Q E s := by
  w_top off
  revert X
  show _ → wpAny (model PySem.Challenge.rw_jg0025_01.row.prog w) _ _ _ _ _
  k_fill
  intro X
  obtain ⟨pre, post, rfl, hg, ha, hp⟩ := U.split
  have N1 : News h₀ L s.heap ((d, ioO w t1 t2 tb tn b p) :: (pre ++ post)) := fun q hq => N q (by
    simp only [List.mem_append, List.mem_cons] at hq ⊢
    rcases hq with h | h | h <;> simp [h])
  have hoff : ∀ q ∈ pre ++ post, q.1 ≠ d := fun q hq => (List.mem_append.mp hq).elim (ha q) (hp q)
  have hx' : (x, instObj 53 d) ∈ pre ++ post := by
    simp only [List.mem_append, List.mem_cons] at hx ⊢
    rcases hx with h | h | h
    · exact .inl h
    · exact absurd (congrArg Prod.fst h).symm hxd
    · exact .inr h
  clear N U
  have h5 : p ≤ p + k := by lia
  refine wpAny_call ?_
  k_dflt (walk_at "j_enter")
  (rename Fr _ _ _ (fun y => List.lookup y _) => F1)
  replace F1 := fr_at (m' := fun y => List.lookup y [("n", Value.int k tk0), ("self", Value.ref x)]) F1 (by with_unfolding_all rfl)
  walk_at "j_steps"
  rename_i bs ks' _ _ _ hbs hks hkl _ _ hh _ _ _ N9 _ _
  have e1 : p + (ks'.length : Int) = p + k := by lia
  have e2 : (p + k - p).toNat = k.toNat := by congr 1; lia
  rw [e1] at N9
  rw [e2] at hks
  replace N9 := news_place N9
  rw [← hg] at N9
  exact hQ bs ks' _ _ _ _ (by assumption) N9 hbs hks (by lia)

set_option maxRecDepth 100000 in
set_option maxHeartbeats 8000000 in
theorem law_oct {w : World} {cn : Str} {cs : Scope} {a : Addr} {ccd : Value} {outer : List Env} {A₀ : Around} {base h₀ : Heap} {L l : Addr} {m : Str → Option Value} {news : List (Addr × Obj)} {s : Shared} {vs : List Value} {n : Nat} {ps : List Int} {mean : ExcName → Option Value} {mg mb : Str → Option Value}
    {Q E : Value → Shared → Prop} (B : Below A₀ base outer h₀) (F : Fr h₀ L s.heap m) (X : (hd.heap_39 w.params).In h₀) (N : News h₀ L s.heap news) (T : Top hd.view_39 Lz mean mg mb h₀) (hk : cs.kind = .function)
    (hl : (l, listOf vs.toArray n) ∈ news) (hi : IntsAre vs ps) (hlen : ps.length ≤ 66) (hps : ∀ p ∈ ps, 0 ≤ p ∧ p < 4294967295)
    (hQ : ∀ b t h' tk, Fr h₀ L h' m → News h₀ L h' news → KBw.bInts b = octP ps → (toldP ps).length ≤ 66 * 67 → Q (.bytes b t) { s with heap := h', toks := tk }) :
    wpAny (model Pg w) (atD 302 7 cn cs L a ccd outer) (call (.ref 156) [.ref l]) Q E s := by
  w_top off
  revert X
  show _ → wpAny (model PySem.Challenge.rw_jg0025_01.row.prog w) _ _ _ _ _
  k_fill
  intro X
  refine wpAny_call ?_
  k_dflt ktr_enter
  walk_at "j_steps"
  rename_i g' L' h3 FG B1 X1 T1 tk0 D h2 o0 hD hDs _ _ hd0 hf0 h0 F1 N1
  have hpre : PyProof.V.FlatPairs PyData.int [] (kdfD []) := hf0
  (with_unfolding_all refine' For_invVF F1 ?k1 ?k2 ?_)
  case k1 => exact rfl
  case k2 => exact rfl
  walk1
  k_dflt (refine' iter_lst (chg₀ := [(D, o0)]) (fixed := news)
            (fun i m₁ chg => ∃ o kvs c, m₁ "words" = some (.ref D) ∧ m₁ "places" = some (.ref l) ∧ chg = [(D, o)] ∧ o.IsDictOf (PySem.intKind PySem.Challenge.rw_jg0025_01.row.prog w) kvs ∧ PyProof.V.FlatPairs PyData.int kvs (kdfD c) ∧ c = lawC (ps.take i) ∧ c.length ≤ i)
            rfl F1 N1 hl hi ?hJ ?ap ?turn ?done)
  case hJ => exact ⟨o0, [], [], rfl, rfl, rfl, hd0, hpre, rfl, Nat.le_refl _⟩
  case ap => exact fun p hp q hq => by rw [List.mem_singleton.mp hp]; exact Nat.ne_of_lt (hD q hq)
  case turn =>
    rintro i pl t m₁ chg h₁ tk₁ tl hget ⟨o, kvs, c, e1, e2, rfl, hd, hf, hcE, hc⟩ hne hT F₁ N₁
    have hoff : ∀ q ∈ tl, q.1 ≠ D := hT.off _ (.head _)
    have hpl := hps pl (List.mem_of_getElem? hget)
    have hi4 : i < ps.length := (List.getElem?_eq_some_iff.mp hget).1
    have e3 : (fun y => if y = Str.ofString "place" then some (Value.int pl t) else m₁ y) "words" = some (.ref D) := e1
    have e4 : (fun y => if y = Str.ofString "place" then some (Value.int pl t) else m₁ y) "places" = some (.ref l) := e2
    replace F₁ : Fr g' L' h₁ _ := frL (bs := [("words", .ref D), ("places", .ref l)]) F₁ ⟨e3, e4, trivial⟩
    replace N₁ : News g' L' h₁ ((D, o) :: tl) := N₁
    dsimp only [ovr] at F₁
    dsimp only at hT hne
    clear e1 e2 e3 e4 N1 F1
    refine wp_gen fun Qg hQg => ?_
    walk_at "j_steps"
    (rename Fr _ _ _ _ => F2)
    (rename News _ _ _ _ => N2)
    refine hQg _ _ ?_
    refine Turn.mk [(D, _)] F2 N2 (fun p hp => ?_) ⟨_, _, _, rfl, rfl, rfl, (by assumption), (by assumption), ?_, ?_⟩
    · rw [List.mem_singleton.mp hp]; exact hne (D, o) List.mem_cons_self
    · rw [lawC_take hget, ← hcE]; rfl
    · exact Nat.le_trans (kdfPut_len _ _ _) (by lia)
  case done =>
    rintro m₁ chg h₁ tk₁ ⟨o, kvs, c, e1, e2, rfl, hd, hf, hcE, hc⟩ F₁ N₁
    replace F₁ : Fr g' L' h₁ _ := frL (bs := [("words", .ref D), ("places", .ref l)]) F₁ ⟨e1, e2, trivial⟩
    replace N₁ : News g' L' h₁ ((D, o) :: news) := N₁
    dsimp only [ovr] at F₁
    rw [List.take_length] at hcE
    clear e1 e2 N1 F1
    walk_at "j_steps"
    (rename Fr _ _ _ _ => F2)
    (with_unfolding_all refine' For_invVF F2 ?k1 ?k2 ?_)
    case k1 => exact rfl
    case k2 => exact rfl
    walk_at "j_steps"
    rename_i RA h5 hRA h6 tk5 h7 N5 DV h8 F8 N8 hDV
    k_dflt (refine' j_sorted (d := D) rfl F8 N8 List.mem_cons_self (List.mem_cons_of_mem _ (List.mem_cons_of_mem _ List.mem_cons_self)) hd hf hDs ?hn ?hnd ?_)
    case hn => lia
    case hnd => rw [hcE]; exact lawC_nodup ps
    intro DK hK tkK vsK cK ks FK NK hltK hik hperm hpw
    have hkn : ks.Nodup := hperm.nodup_iff.mpr (by rw [hcE]; exact lawC_nodup ps)
    have hks := strict_of hpw hkn
    have hkm : ∀ x, x ∈ ks ↔ ∃ p ∈ ps, p.fdiv 64 = x := fun x => by
      rw [hperm.mem_iff, ← lawC_has, hcE]
      unfold kdfHas
      rw [List.any_eq_true]
      simp only [decide_eq_true_eq, List.mem_map]
    have hk0 : ∀ x ∈ ks, 0 ≤ x := fun x hx => by
      obtain ⟨p, hp, e⟩ := (hkm x).mp hx
      have := (hps p hp).1
      rw [Int.fdiv_eq_ediv_of_nonneg _ (by decide)] at e
      lia
    have hkl : ks.length ≤ 66 := by rw [hperm.length_eq, List.length_map]; lia
    have hkb : ∀ x ∈ ks, x < 67108864 := fun x hx => by
      obtain ⟨p, hp, e⟩ := (hkm x).mp hx
      have := (hps p hp).2
      rw [Int.fdiv_eq_ediv_of_nonneg _ (by decide)] at e
      lia
    have NK' : News g' L' hK ([(RA, listOf (refsOf []).toArray 0)] ++ ((DK, listOf vsK.toArray cK) :: (D, o) :: news)) := fun p hp => by
      rcases List.mem_append.mp hp with hp | hp
      · rw [List.mem_singleton.mp hp]; exact NK _ (List.mem_cons_of_mem _ (List.mem_cons_of_mem _ List.mem_cons_self))
      · rcases List.mem_cons.mp hp with e | hp
        · rw [e]; exact NK _ List.mem_cons_self
        · exact NK _ (List.mem_cons_of_mem _ (List.mem_cons_of_mem _ (List.mem_cons_of_mem _ hp)))
    have hRD : RA ≠ D := Ne.symm (Nat.ne_of_lt hRA.1)
    have hRK : DK ≠ RA := Ne.symm (Nat.ne_of_lt (hltK _ (List.mem_cons_of_mem _ List.mem_cons_self)))
    have hRn : ∀ q ∈ news, q.1 ≠ RA := allLt_ne hRA.2
    k_dflt (refine' iter_lst (chg₀ := [(RA, listOf (refsOf []).toArray 0)]) (fixed := (DK, listOf vsK.toArray cK) :: (D, o) :: news) (la := DK)
              (fun i m₁ chg => ∃ (cs : List Cell) (nR : Nat) (at_ : Nat) (t1 : Tok), m₁ "rows" = some (.ref RA) ∧ m₁ "words" = some (.ref D) ∧ m₁ "places" = some (.ref l) ∧ m₁ "at" = some (.int at_ t1) ∧ chg = (RA, listOf (refsOf cs).toArray nR) :: cellsL cs ∧ CellsOk hK.objs.size cs ∧ cs.map rowOf = rowsS (wordsTo ps at_) ∧ Open0 (rowsS (wordsTo ps at_)) ∧ (at_ : Int) = atOf ks i ∧ cs.length ≤ i ∧ (∀ c ∈ cs, c.ls.length ≤ i))
              rfl FK NK' List.mem_cons_self hik ?hJ ?ap ?turn ?done)
    case hJ => exact ⟨[], 0, 0, _, rfl, rfl, rfl, rfl, rfl, trivial, rfl, fun z R' e => (nomatch e), rfl, Nat.le_refl _, fun c hc => (nomatch hc)⟩
    case ap =>
      intro p hp q hq
      rw [List.mem_singleton.mp hp]
      rcases List.mem_cons.mp hq with e | hq
      · rw [e]; exact hRK
      · rcases List.mem_cons.mp hq with e | hq
        · rw [e]; exact Ne.symm hRD
        · exact hRn q hq
    case turn =>
      rintro i k t2 m₂ chg h₂ tk₂ tl hget ⟨cs, nR, at_, t1, e1, e2, e3, e4, rfl, hcs, hrow, hop, hat, hcl, hll⟩ hne hT F₂ N₂
      dsimp only at hne hT
      have hlt : i < ks.length := (List.getElem?_eq_some_iff.mp hget).1
      have hkk : ks.getD i 0 = k := by rw [List.getD_eq_getElem?_getD, hget]; rfl
      have hki : k ∈ ks := List.mem_of_getElem? hget
      obtain ⟨kn, rfl⟩ : ∃ kn : Nat, k = (kn : Int) := ⟨k.toNat, by have := hk0 k hki; lia⟩
      have hkp := (hkm _).mp hki
      have hkb' := hkb _ hki
      have hle : at_ ≤ kn := by have := atOf_le hks hk0 hlt; rw [← hat, hkk] at this; lia
      have hgap : ∀ j : Nat, at_ ≤ j → j < kn → ¬ ∃ p ∈ ps, p.fdiv 64 = (j : Int) := fun j h1 h2 q =>
        gap hks hlt (j := (j : Int)) (by rw [← hat]; lia) (by rw [hkk]; lia) ((hkm _).mpr q)
      have hhas : kdfHas c (kn : Int) = true := by rw [hcE]; exact (lawC_has ps _).mpr hkp
      have hlook : kdfLook c (kn : Int) 0 = (wordAt ps kn : Int) := by rw [hcE]; exact lawC_look _
      have hDm : (D, o) ∈ tl := hT.sub _ (List.mem_cons_of_mem _ List.mem_cons_self)
      have hDK : DK < hK.objs.size := hT.low _ List.mem_cons_self
      have hRAB : RA < hK.objs.size := hT.lowc (RA, _) List.mem_cons_self
      have htl : ∀ q ∈ tl, q.1 ≤ hK.objs.size := fun q hq => by
        rcases hT.old q hq with h1 | ⟨_, h1⟩
        · exact Nat.le_of_lt (hT.low q h1)
        · rcases List.mem_cons.mp h1 with e | h1
          · exact Nat.le_of_eq e
          · rw [List.mem_singleton.mp h1]; exact Nat.le_of_lt hDK
      have hRAtl : ∀ q ∈ tl, q.1 ≠ RA := hT.off _ List.mem_cons_self
      have hnil : IntsAre [] [] := .nil
      have e5 : (fun y => if y = Str.ofString "k" then some (Value.int (kn : Int) t2) else m₂ y) "rows" = some (.ref RA) := e1
      have e6 : (fun y => if y = Str.ofString "k" then some (Value.int (kn : Int) t2) else m₂ y) "words" = some (.ref D) := e2
      have e7 : (fun y => if y = Str.ofString "k" then some (Value.int (kn : Int) t2) else m₂ y) "places" = some (.ref l) := e3
      have e8 : (fun y => if y = Str.ofString "k" then some (Value.int (kn : Int) t2) else m₂ y) "at" = some (.int at_ t1) := e4
      replace F₂ : Fr g' L' h₂ _ := frL (bs := [("rows", .ref RA), ("words", .ref D), ("places", .ref l), ("at", .int at_ t1)]) F₂ ⟨e5, e6, e7, e8, trivial⟩
      replace N₂ : News g' L' h₂ ((RA, listOf (refsOf cs).toArray nR) :: (cellsL cs ++ tl)) := N₂
      dsimp only [ovr] at F₂
      clear e1 e2 e3 e4 e5 e6 e7 e8 N8 F8 NK FK NK' N5 F2
      rcases Nat.lt_or_ge at_ kn with hnew | hold
      · have hDm' : (D, o) ∈ cellsL cs ++ tl := List.mem_append_right _ hDm
        have hRAt : ∀ q ∈ cellsL cs ++ tl, q.1 ≠ RA := fun q hq => (List.mem_append.mp hq).elim (fun h => Ne.symm (Nat.ne_of_lt (Nat.lt_trans hRAB (cells_above hcs q h)))) (hRAtl q)
        have hgt : (kn : Int) > at_ := by lia
        refine wp_gen fun Qg hQg => ?_
        walk_at "j_steps"
        rename_i li' hh1 hli r' hh2 hr hh3 tkA tv hh4 tkB hh5 F9 N9
        obtain ⟨oB, hoB⟩ := hT.it
        have hBli : hK.objs.size < li' := kst_ltOf hli.2 _ (List.mem_append_right _ hoB)
        have hmemb : ∀ p ∈ ((RA, listOf (refsOf (⟨r', li', (kn : Int) - at_, tk₂, [Value.int (kdfLook c (kn : Int) 0) tv], [kdfLook c (kn : Int) 0], 0, 1⟩ :: cs : List Cell)).toArray (nR + 1)) :: cellsL (⟨r', li', (kn : Int) - at_, tk₂, [Value.int (kdfLook c (kn : Int) 0) tv], [kdfLook c (kn : Int) 0], 0, 1⟩ :: cs : List Cell)) ++ tl, News g' L' hh5 [p] := fun p hp => by
          rw [refsOf_cons, cellsL_cons] at hp
          have : p ∈ ((r', listOf #[Value.int ((kn : Int) - at_) tk₂, Value.ref li'] 0) :: (li', listOf (#[].push (Value.int (kdfLook c (kn : Int) 0) tv)) (0 + 1)) :: (RA, listOf (refsOf cs ++ [Value.ref r']).toArray (nR + 1)) :: (cellsL cs ++ tl)) := by
            simp only [List.mem_append, List.mem_cons, List.cons_append] at hp ⊢
            rcases hp with h | h | h | h | h <;> simp [h]
          intro q hq; rw [List.mem_singleton.mp hq]; exact N9 p this
        refine hQg _ _ ?_
        refine Turn.mk ((RA, listOf (refsOf (⟨r', li', (kn : Int) - at_, tk₂, [Value.int (kdfLook c (kn : Int) 0) tv], [kdfLook c (kn : Int) 0], 0, 1⟩ :: cs : List Cell)).toArray (nR + 1)) :: cellsL (⟨r', li', (kn : Int) - at_, tk₂, [Value.int (kdfLook c (kn : Int) 0) tv], [kdfLook c (kn : Int) 0], 0, 1⟩ :: cs : List Cell)) F9 (fun p hp => hmemb p hp p (List.mem_singleton.mpr rfl)) (fun p hp => ?_)
          ⟨_, _, kn + 1, _, rfl, rfl, rfl, int_eq rfl (by lia), rfl, ⟨hBli, hr.1, fun p hp => kst_ltOf hli.2 p (List.mem_append_left _ hp), .cons _ _ .nil, (show (0 : Int) ≤ (kn : Int) - at_ by lia), hcs⟩, ?_, ?_, ?_, by simp only [List.length_cons]; lia, fun c' hc' => ?_⟩
        · rcases List.mem_cons.mp hp with e | hp
          · rw [e]; exact Nat.ne_of_lt hRAB
          · rw [cellsL_cons] at hp
            rcases List.mem_cons.mp hp with e | hp
            · rw [e]; exact Ne.symm (Nat.ne_of_lt (Nat.lt_trans hBli hr.1))
            · rcases List.mem_cons.mp hp with e | hp
              · rw [e]; exact Ne.symm (Nat.ne_of_lt hBli)
              · exact Ne.symm (Nat.ne_of_lt (cells_above hcs p hp))
        · rw [rows_gap hle hgap hkp hop (.inl hnew), ← hrow, List.map_cons]
          unfold rowOf
          rw [hlook, show ((kn : Int) - at_).toNat = kn - at_ by lia]
        · rw [rows_gap hle hgap hkp hop (.inl hnew)]; exact open_snoc (ls := [])
        · unfold atOf; rw [if_neg (Nat.succ_ne_zero i), Nat.add_sub_cancel, hkk]; lia
        · rcases List.mem_cons.mp hc' with e | hc'
          · rw [e]; simp only [List.length_cons, List.length_nil]; lia
          · have := hll c' hc'; lia
      · have hke : at_ = kn := by lia
        subst hke
        cases cs with
        | nil =>
          replace N₂ : News g' L' h₂ ((RA, listOf [].toArray nR) :: tl) := N₂
          have hngt : ¬ (at_ : Int) > at_ := by lia
          refine wp_gen fun Qg hQg => ?_
          walk_at "j_steps"
          rename_i tkT li' hh1 hli r' hh2 hr hh3 tkA tv hh4 hint tkB hh5 F9 N9
          obtain ⟨oB, hoB⟩ := hT.it
          have hBli : hK.objs.size < li' := kst_ltOf hli.2 _ (hoB)
          have hmemb : ∀ p ∈ ((RA, listOf (refsOf (⟨r', li', (at_ : Int) - at_, tkT, [Value.int (kdfLook c (at_ : Int) 0) tv], [kdfLook c (at_ : Int) 0], 0, 1⟩ :: [] : List Cell)).toArray (nR + 1)) :: cellsL (⟨r', li', (at_ : Int) - at_, tkT, [Value.int (kdfLook c (at_ : Int) 0) tv], [kdfLook c (at_ : Int) 0], 0, 1⟩ :: [] : List Cell)) ++ tl, News g' L' hh5 [p] := fun p hp => by
            rw [refsOf_cons, cellsL_cons] at hp
            have : p ∈ ((r', listOf #[Value.int ((at_ : Int) - at_) tkT, Value.ref li'] 0) :: (li', listOf ([] ++ [Value.int (kdfLook c (at_ : Int) 0) tv]).toArray (0 + 1)) :: (RA, listOf [Value.ref r'].toArray (nR + 1)) :: tl) := by
              simp only [List.mem_append, List.mem_cons, List.cons_append] at hp ⊢
              simp only [show refsOf [] = [] from rfl, show cellsL [] = [] from rfl, List.nil_append, List.not_mem_nil, or_false, false_or] at hp ⊢
              rcases hp with h | h | h | h
              · exact .inr (.inr (.inl h))
              · exact .inl h
              · exact .inr (.inl h)
              · exact .inr (.inr (.inr h))
            intro q hq; rw [List.mem_singleton.mp hq]; exact N9 p this
          refine hQg _ _ ?_
          refine Turn.mk ((RA, listOf (refsOf (⟨r', li', (at_ : Int) - at_, tkT, [Value.int (kdfLook c (at_ : Int) 0) tv], [kdfLook c (at_ : Int) 0], 0, 1⟩ :: [] : List Cell)).toArray (nR + 1)) :: cellsL (⟨r', li', (at_ : Int) - at_, tkT, [Value.int (kdfLook c (at_ : Int) 0) tv], [kdfLook c (at_ : Int) 0], 0, 1⟩ :: [] : List Cell)) F9 (fun p hp => hmemb p hp p (List.mem_singleton.mpr rfl)) (fun p hp => ?_)
            ⟨_, _, at_ + 1, _, rfl, rfl, rfl, int_eq rfl (by lia), rfl, ⟨hBli, hr.1, fun p hp => (nomatch hp), .cons _ _ .nil, (show (0 : Int) ≤ (at_ : Int) - at_ by lia), hcs⟩, ?_, ?_, ?_, by simp only [List.length_cons]; lia, fun c' hc' => ?_⟩
          · rcases List.mem_cons.mp hp with e | hp
            · rw [e]; exact Nat.ne_of_lt hRAB
            · rw [cellsL_cons] at hp
              rcases List.mem_cons.mp hp with e | hp
              · rw [e]; exact Ne.symm (Nat.ne_of_lt (Nat.lt_trans hBli hr.1))
              · rcases List.mem_cons.mp hp with e | hp
                · rw [e]; exact Ne.symm (Nat.ne_of_lt hBli)
                · exact Ne.symm (Nat.ne_of_lt (cells_above (cs := []) trivial p hp))
          · rw [rows_gap hle hgap hkp hop (.inr hrow.symm), ← hrow, List.map_cons]
            unfold rowOf
            rw [hlook, show ((at_ : Int) - at_).toNat = at_ - at_ by lia]
          · rw [rows_gap hle hgap hkp hop (.inr hrow.symm)]; exact open_snoc (ls := [])
          · unfold atOf; rw [if_neg (Nat.succ_ne_zero i), Nat.add_sub_cancel, hkk]; lia
          · rcases List.mem_cons.mp hc' with e | hc'
            · rw [e]; simp only [List.length_cons, List.length_nil]; lia
            · have := hll c' hc'; lia
        | cons c0 cs =>
          obtain ⟨hc1, hc2, hc3, hc4, hc5, hc6⟩ := hcs
          have hDm' : (D, o) ∈ cellsL cs ++ tl := List.mem_append_right _ hDm
          have hRAt : ∀ q ∈ cellsL cs ++ tl, q.1 ≠ RA := fun q hq => (List.mem_append.mp hq).elim (fun h => Ne.symm (Nat.ne_of_lt (Nat.lt_trans hRAB (cells_above hc6 q h)))) (hRAtl q)
          have hlit : ∀ q ∈ cellsL cs ++ tl, q.1 ≠ c0.li := fun q hq => (List.mem_append.mp hq).elim (fun h => Nat.ne_of_lt (hc3 q h)) (fun h => Nat.ne_of_lt (Nat.lt_of_le_of_lt (htl q h) hc1))
          have hRAli := ltN (Nat.lt_trans hRAB hc1)
          have hc2' := ltN hc2
          replace N₂ : News g' L' h₂ ((RA, listOf (refsOf cs ++ [Value.ref c0.r]).toArray nR) :: (c0.r, listOf [Value.int c0.run c0.t, Value.ref c0.li].toArray c0.n1) :: (c0.li, listOf c0.vs.toArray c0.n2) :: (cellsL cs ++ tl)) := by
            rw [refsOf_cons, cellsL_cons] at N₂; exact N₂
          have hngt : ¬ (at_ : Int) > at_ := by lia
          have hlsz : c0.ls.length ≤ i := hll c0 List.mem_cons_self
          simp only [List.length_cons] at hcl
          clear hnil
          refine wp_gen fun Qg hQg => ?_
          walk_at "j_steps"
          · exact absurd (by assumption : (refsOf cs ++ [Value.ref c0.r]).isEmpty = true) (by simp)
          · rename_i tkT hemp tv hh4 hint tkB hh5 F9 N9
            refine hQg _ _ ?_
            refine Turn.mk ((RA, listOf (refsOf (⟨c0.r, c0.li, c0.run, c0.t, c0.vs ++ [Value.int (kdfLook c (at_ : Int) 0) tv], c0.ls ++ [kdfLook c (at_ : Int) 0], c0.n1, c0.n2 + 1⟩ :: cs : List Cell)).toArray nR) :: cellsL (⟨c0.r, c0.li, c0.run, c0.t, c0.vs ++ [Value.int (kdfLook c (at_ : Int) 0) tv], c0.ls ++ [kdfLook c (at_ : Int) 0], c0.n1, c0.n2 + 1⟩ :: cs : List Cell)) F9 (by rw [refsOf_cons, cellsL_cons]; exact N9) (fun p hp => ?_)
              ⟨_, _, at_ + 1, _, rfl, rfl, rfl, int_eq rfl (by lia), rfl, ⟨hc1, hc2, hc3, hint, hc5, hc6⟩, ?_, ?_, ?_, by simp only [List.length_cons]; lia, fun c' hc' => ?_⟩
            · rcases List.mem_cons.mp hp with e | hp
              · rw [e]; exact Nat.ne_of_lt hRAB
              · rw [cellsL_cons] at hp
                rcases List.mem_cons.mp hp with e | hp
                · rw [e]; exact Ne.symm (Nat.ne_of_lt (Nat.lt_trans hc1 hc2))
                · rcases List.mem_cons.mp hp with e | hp
                  · rw [e]; exact Ne.symm (Nat.ne_of_lt hc1)
                  · exact Ne.symm (Nat.ne_of_lt (cells_above hc6 p hp))
            · rw [rows_more hkp (by rw [← hrow]; rfl)]
              show (_, c0.ls ++ [kdfLook c (at_ : Int) 0]) :: _ = _
              rw [hlook]
            · rw [rows_more hkp (by rw [← hrow]; rfl)]; exact open_snoc
            · unfold atOf; rw [if_neg (Nat.succ_ne_zero i), Nat.add_sub_cancel, hkk]; lia
            · rcases List.mem_cons.mp hc' with e | hc'
              · rw [e]; simp only [List.length_append, List.length_cons, List.length_nil]; lia
              · have := hll c' (List.mem_cons_of_mem _ hc'); lia
    case done =>
      rintro m₂ chg h₂ tk₂ ⟨cs, nR, at_, t1, e1, e2, e3, e4, rfl, hcs, hrow, hop, hat, hcl, hll⟩ F₂ N₂
      replace F₂ : Fr g' L' h₂ _ := frL (bs := [("rows", .ref RA), ("places", .ref l)]) F₂ ⟨e1, e3, trivial⟩
      replace N₂ : News g' L' h₂ ((RA, listOf (refsOf cs).toArray nR) :: (cellsL cs ++ ((DK, listOf vsK.toArray cK) :: (D, o) :: news))) := N₂
      dsimp only [ovr] at F₂
      clear e1 e2 e3 e4 N8 F8 NK FK NK' N5 F2
      walk_at "j_steps"
      have hcnt := at_cnt hks (fun p hp => (hps p hp).1) hkm hat
      rename_i TA hh9 hTA hh10 F9 N9
      have hl9 : ∀ q ∈ ((RA, listOf (refsOf cs).toArray nR) :: (cellsL cs ++ ((DK, listOf vsK.toArray cK) :: (D, o) :: news))), q.1 ≠ TA := fun q hq => by
        rcases List.mem_cons.mp hq with e | hq
        · rw [e]; exact Nat.ne_of_lt hTA.1
        · exact Nat.ne_of_lt (kst_ltOf hTA.2 q hq)
      have N9' : News g' L' hh10 ([(TA, listOf ([] : List Value).toArray 0)] ++ ((RA, listOf (refsOf cs).toArray nR) :: (cellsL cs ++ ((DK, listOf vsK.toArray cK) :: (D, o) :: news)))) := N9
      (with_unfolding_all refine' For_turns F9 ?_)
      walk_at "j_steps"
      k_dflt (refine' iter_tup (la := RA) (its := (refsOf cs).toArray) (ep := nR) (chg₀ := [(TA, listOf ([] : List Value).toArray 0)]) (fixed := (RA, listOf (refsOf cs).toArray nR) :: (cellsL cs ++ ((DK, listOf vsK.toArray cK) :: (D, o) :: news)))
                (fun i m₁ chg => ∃ (U : Addr) (vt : List Value) (ts : List Int) (nt : Nat), m₁ "told" = some (.ref U) ∧ m₁ "places" = some (.ref l) ∧ chg = [(U, listOf vt.toArray nt)] ∧ IntsAre vt ts ∧ ts = (cs.reverse.take i).flatMap fun c => mark (rowOf c) :: c.ls)
                rfl F9 N9' List.mem_cons_self ?hJ ?ap ?turn ?done)
      case hJ => exact ⟨TA, [], [], 0, rfl, rfl, rfl, .nil, rfl⟩
      case ap => exact fun p hp q hq => by rw [List.mem_singleton.mp hp]; exact hl9 q hq
      case turn =>
        rintro i v m₃ chg h₃ tk₃ tl hget ⟨U, vt, ts, nt, e1, e2, rfl, hvt, hts⟩ hne hT F₃ N₃
        rw [List.getElem?_toArray] at hget
        obtain ⟨c0, hc0, rfl, hrev⟩ := refs_get hget
        dsimp only at hne hT
        have hm0 := cells_mem hc0
        have hm1 : (c0.r, listOf [Value.int c0.run c0.t, Value.ref c0.li].toArray c0.n1) ∈ tl := hT.sub _ (List.mem_cons_of_mem _ (List.mem_append_left _ hm0.1))
        have hm2 : (c0.li, listOf c0.vs.toArray c0.n2) ∈ tl := hT.sub _ (List.mem_cons_of_mem _ (List.mem_append_left _ hm0.2))
        obtain ⟨hc4, hc5⟩ := cells_ints hcs c0 hc0
        have hlsz : c0.ls.length ≤ 66 := Nat.le_trans (hll c0 hc0) hkl
        have htsz : ts.length ≤ 66 * 67 := by
          have h1 := cells_told_len (l := cs.reverse.take i) (b := 66) fun q hq => Nat.le_trans (hll q (List.mem_reverse.mp (List.mem_of_mem_take hq))) hkl
          rw [← hts] at h1
          have h2 : (cs.reverse.take i).length ≤ 66 := by rw [List.length_take, List.length_reverse]; lia
          exact Nat.le_trans h1 (Nat.mul_le_mul_right _ h2)
        replace F₃ : Fr g' L' h₃ _ := frL (bs := [("told", .ref U), ("places", .ref l)]) F₃ ⟨e1, e2, trivial⟩
        replace N₃ : News g' L' h₃ ((U, listOf vt.toArray nt) :: tl) := N₃
        dsimp only [ovr] at F₃
        clear e1 e2 N9' F9 N9
        iterate 8 (walk1; try dsimp only)
        refine wp_gen fun Qg hQg => ?_
        walk_at "j_steps"
        rename_i hlt1 r2 hh12 hlt2 hint2 r3 hh13 hlt3 hint3 hh14 F11 N11
        obtain ⟨oB, hoB⟩ := hT.it
        refine hQg _ _ ?_
        refine Turn.mk [(r3, _)] F11 (fun p hp => N11 p ?_) (fun p hp => ?_) ⟨r3, _, _, 0, rfl, rfl, rfl, hint3, ?_⟩
        · rcases List.mem_cons.mp hp with e | hp
          · rw [e]; exact List.mem_cons_self
          · exact List.mem_cons_of_mem _ (List.mem_cons_of_mem _ (List.mem_cons_of_mem _ (List.mem_cons_of_mem _ hp)))
        · rw [List.mem_singleton.mp hp]
          exact Ne.symm (Nat.ne_of_lt (kst_ltOf hlt3 _ (List.mem_cons_of_mem _ (List.mem_cons_of_mem _ (List.mem_cons_of_mem _ hoB)))))
        · rw [List.take_add_one, hrev, List.flatMap_append, ← hts]
          show ts ++ [_] ++ c0.ls = ts ++ (mark (rowOf c0) :: c0.ls ++ [])
          rw [List.append_assoc, List.append_nil]
          congr 2
          unfold mark rowOf
          dsimp only
          rw [Int.toNat_of_nonneg hc5]; rfl
      case done =>
        rintro m₃ chg h₃ tk₃ ⟨U, vt, ts, nt, e1, e2, rfl, hvt, hts⟩ F₃ N₃
        have hts' : ts = toldP ps := by
          rw [hts, List.size_toArray, refsOf_length, List.take_of_length_le (by rw [List.length_reverse]; exact Nat.le_refl _)]
          unfold toldP
          rw [← hcnt, ← hrow]
          unfold toldOf
          rw [← List.map_reverse, List.flatMap_map]; rfl
        have htsz : (toldP ps).length ≤ 66 * 67 := by
          have h1 := cells_told_len (l := cs.reverse.take (refsOf cs).toArray.size) (b := 66) fun q hq => Nat.le_trans (hll q (List.mem_reverse.mp (List.mem_of_mem_take hq))) hkl
          rw [← hts] at h1
          have h2 : (cs.reverse.take (refsOf cs).toArray.size).length ≤ 66 := by rw [List.length_take, List.length_reverse]; lia
          rw [← hts']
          exact Nat.le_trans h1 (Nat.mul_le_mul_right _ h2)
        rw [hts'] at hvt
        have ht0 := top_ge ps
        have ht1 := top_lt (ps := ps) (b := 4294967295) (by decide) fun p hp => (hps p hp).2
        have htb : ∀ x ∈ toldP ps, 0 ≤ x ∧ x < 18446744073709551616 := told_bounds (fun x hx => wordsTo_mem hx) (by rw [wordsTo_len]; unfold cnt; lia)
        have hpz : ps.length ≤ 66 := hlen
        replace F₃ : Fr g' L' h₃ _ := frL (bs := [("told", .ref U), ("places", .ref l)]) F₃ ⟨e1, e2, trivial⟩
        replace N₃ : News g' L' h₃ ((U, listOf vt.toArray nt) :: (RA, listOf (refsOf cs).toArray nR) :: (cellsL cs ++ ((DK, listOf vsK.toArray cK) :: (D, o) :: news))) := N₃
        have hlm : (l, listOf vs.toArray n) ∈ cellsL cs ++ ((DK, listOf vsK.toArray cK) :: (D, o) :: news) := List.mem_append_right _ (List.mem_cons_of_mem _ (List.mem_cons_of_mem _ hl))
        dsimp only [ovr] at F₃
        clear e1 e2 N9' F9 N9 hts
        walk_at "j_steps"
        rename_i lm hh12 hlm12 rm hh13 hlt13 hint13 hh14 tt14 tk14 b1 tb1 tk15 hb1 b2 tb2 tk16 hb2 tb3 tk17 hb3 hh18 F13 N13
        replace hb3 : KBw.bInts (b1 ++ b2) = BE 4 (topOf ps + 1) ++ BE 4 (toldP ps).length := hb3
        (with_unfolding_all refine' For_invVF F13 ?k1 ?k2 ?_)
        case k1 => exact rfl
        case k2 => exact rfl
        walk1
        have N13' : News g' L' hh18 ([] ++ ((rm, listOf ([Value.int (-1) (tk₃ + 1)] ++ vs).toArray 0) :: (lm, listOf #[Value.int (-1) (tk₃ + 1)] 0) :: (U, listOf vt.toArray nt) :: (RA, listOf (refsOf cs).toArray nR) :: (cellsL cs ++ ((DK, listOf vsK.toArray cK) :: (D, o) :: news)))) := N13
        k_dflt (refine' iter_lst (chg₀ := []) (fixed := (rm, listOf ([Value.int (-1) (tk₃ + 1)] ++ vs).toArray 0) :: (lm, listOf #[Value.int (-1) (tk₃ + 1)] 0) :: (U, listOf vt.toArray nt) :: (RA, listOf (refsOf cs).toArray nR) :: (cellsL cs ++ ((DK, listOf vsK.toArray cK) :: (D, o) :: news))) (la := U)
                  (fun i m₁ chg => ∃ (b : Array UInt8) (t : Tok), m₁ "octets" = some (.bytes b t) ∧ chg = [] ∧ KBw.bInts b = (BE 4 (topOf ps + 1) ++ BE 4 (toldP ps).length) ++ ((toldP ps).take i).flatMap (BE 8))
                  rfl F13 N13' (List.mem_cons_of_mem _ (List.mem_cons_of_mem _ List.mem_cons_self)) hvt ?hJ ?ap ?turn ?done)
        case hJ => exact ⟨_, _, rfl, rfl, by rw [hb3]; exact (List.append_nil _).symm⟩
        case ap => exact fun p hp => (nomatch hp)
        case turn =>
          rintro i x t m₄ chg h₄ tk₄ tl hget ⟨b, tb, e1, rfl, hb⟩ hne hT F₄ N₄
          obtain ⟨hx0, hx1⟩ := htb x (List.mem_of_getElem? hget)
          have hil : i < (toldP ps).length := (List.getElem?_eq_some_iff.mp hget).1
          have hsz4 : ((BE 4 (topOf ps + 1) ++ BE 4 (toldP ps).length) ++ ((toldP ps).take i).flatMap (BE 8)).length + (BE 8 x).length ≤ 16777216 := by
            simp only [BE_len, flat_len, List.length_append, List.length_take]; lia
          have e3 : (fun y => if y = Str.ofString "word" then some (Value.int x t) else m₄ y) "octets" = some (.bytes b tb) := e1
          replace F₄ : Fr g' L' h₄ _ := frL (bs := [("octets", .bytes b tb)]) F₄ ⟨e3, trivial⟩
          dsimp only [ovr] at F₄
          clear e1 e3 F13 N13 N13'
          refine wp_gen fun Qg hQg => ?_
          walk_at "j_steps"
          (rename Fr _ _ _ _ => F15)
          (rename News _ _ _ _ => N15)
          refine hQg _ _ ?_
          refine Turn.mk [] F15 N15 (fun p hp => (nomatch hp)) ⟨_, _, rfl, rfl, ?_⟩
          rw [List.take_add_one, hget, List.flatMap_append, ← List.append_assoc]
          simp only [Option.toList_some, List.flatMap_cons, List.flatMap_nil, List.append_nil]
          assumption
        case done =>
          rintro m₄ chg h₄ tk₄ ⟨b, tb, e1, rfl, hb⟩ F₄ N₄
          replace F₄ : Fr g' L' h₄ _ := frL (bs := [("octets", .bytes b tb)]) F₄ ⟨e1, trivial⟩
          dsimp only [ovr] at F₄
          rw [List.take_length] at hb
          clear e1 F13 N13 N13'
          walk_at "j_steps"
          (rename News _ _ _ _ => N16)
          exact hQ b tb _ _ (by assumption) (fun p hp => N16 p (List.mem_cons_of_mem _ (List.mem_cons_of_mem _ (List.mem_cons_of_mem _ (List.mem_cons_of_mem _ (List.mem_append_right _ (List.mem_cons_of_mem _ (List.mem_cons_of_mem _ hp)))))))) hb htsz

theorem lines_JZ1 : True := by
  (k_with "j_stepsI" => repeat' (first | (k_unfold; (try dsimp only)) | (k_end; wrow_close) | (walk_at "j_guard"; (fail_if_success (with_reducible show wpAny _ _ (execs (Stmt.If _ _ _ _ :: _ :: _) _) _ _ _)); (first | walk1 | (dsimp only; walk1)); (try dsimp only)) | (leave1; walk_say "STEP leave1"; try dsimp only) | fail "no step"))
  trivial
theorem news_pick {h₀ h : Heap} {L : Addr} {p1 p2 p3 p4 p5 : Addr × Obj} {r : List (Addr × Obj)} (N : News h₀ L h (p1 :: p2 :: p3 :: p4 :: p5 :: r)) : News h₀ L h ([p5, p1] ++ (p4 :: r)) := fun x hx => N x (by
  simp only [List.mem_append, List.mem_cons, List.not_mem_nil, or_false] at hx ⊢
  rcases hx with (h | h) | h | h <;> simp [h])
theorem news_mid {h₀ h : Heap} {L : Addr} {p1 p2 p3 p4 p5 p6 : Addr × Obj} {r : List (Addr × Obj)} (N : News h₀ L h ([p1, p2] ++ (p3 :: p4 :: p5 :: p6 :: r))) : News h₀ L h (p4 :: p1 :: p2 :: p3 :: p5 :: p6 :: r) := fun x hx => N x (by
  simp only [List.mem_append, List.mem_cons, List.not_mem_nil, or_false] at hx ⊢
  rcases hx with h | h | h | h | h | h | h <;> simp [h])
theorem place_eq {w : World} {fd : Addr} {ta tc tb tn : Tok} {b : Array UInt8} {p q : Int} {r : List (Addr × Obj)} (e : p = q) : (fd, ioO w ta tc tb tn b p) :: r = (fd, ioO w ta tc tb tn b q) :: r := by rw [e]
theorem oct_head {ps tl4 : List Int} (hps : ∀ p ∈ ps, 0 ≤ p ∧ p < 4294967295) (_hpl : ps.length ≤ 66) (_htd : (toldP ps).length ≤ 10000) (_ht4 : tl4.length = 4) : KFB.value (((octP ps ++ tl4).drop (Int.toNat 0)).take (Int.toNat 4)) = topOf ps + 1 := by
  have h1 := top_ge ps
  have h2 := top_lt (ps := ps) (b := 4294967295) (by decide) fun p hp => (hps p hp).2
  have e : ((octP ps ++ tl4).drop (Int.toNat 0)).take (Int.toNat 4) = BE 4 (topOf ps + 1) := by
    show (octP ps ++ tl4).take 4 = _
    unfold octP
    rw [List.append_assoc, List.append_assoc]
    exact List.take_left' (BE_len 4 _)
  rw [e, value4 (by lia) (by lia)]
theorem oct_count {ps tl4 : List Int} (htd : (toldP ps).length ≤ 10000) : KFB.value (((octP ps ++ tl4).drop (0 + 4 : Int).toNat).take (Int.toNat 4)) = ((toldP ps).length : Int) := by
  have e : ((octP ps ++ tl4).drop (0 + 4 : Int).toNat).take (Int.toNat 4) = BE 4 ((toldP ps).length : Int) := by
    show ((octP ps ++ tl4).drop 4).take 4 = _
    unfold octP
    rw [List.append_assoc, List.append_assoc, List.drop_left' (BE_len 4 _)]
    exact List.take_left' (BE_len 4 _)
  rw [e, value4 (by lia) (by lia)]
theorem oct_word {ps tl4 : List Int} {i : Nat} (hi : i < (toldP ps).length) (h : ∀ x ∈ toldP ps, 0 ≤ x ∧ x < 18446744073709551616) : KFB.value (((octP ps ++ tl4).drop (8 + 8 * i)).take 8) = (toldP ps).getD i 0 := by
  have e : ((octP ps ++ tl4).drop (8 + 8 * i)).take 8 = BE 8 ((toldP ps)[i]) := by
    unfold octP
    have e8 : (BE 4 (topOf ps + 1) ++ BE 4 ((toldP ps).length : Int)).length = 8 := by rw [List.length_append, BE_len, BE_len]
    rw [List.append_assoc, ← List.drop_drop, List.drop_left' e8]
    exact flat_at _ _ hi
  have hm := h _ (List.getElem_mem hi)
  rw [e, value8 hm.1 hm.2, List.getD_eq_getElem?_getD, List.getElem?_eq_getElem hi]; rfl
set_option maxRecDepth 100000 in
set_option maxHeartbeats 8000000 in
theorem dec_it {w : World} {cn : Str} {cs : Scope} {a : Addr} {ccd : Value} {outer : List Env} {A₀ : Around} {base h₀ : Heap} {L x d S : Addr} {m : Str → Option Value} {news : List (Addr × Obj)} {s : Shared} {so : Obj} {ps tl4 : List Int} {n : Int} {t1 t2 tn tb : Tok} {b : Array UInt8} {mean : ExcName → Option Value} {mg mb : Str → Option Value}
    {Q E : Value → Shared → Prop} (B : Below A₀ base outer h₀) (F : Fr h₀ L s.heap m) (X : (hd.heap_39 w.params).In h₀) (N : News h₀ L s.heap ((S, so) :: (x, instObj 145 d) :: (d, bmO w t1 t2 tn S n) :: news)) (T : Top hd.view_39 Lz mean mg mb h₀) (hk : cs.kind = .function)
    (hl1 : ∀ p ∈ news, p.1 < d) (hl2 : d < x) (hl3 : x < S) (hP : SetP w so []) (hps : ∀ p ∈ ps, 0 ≤ p ∧ p < 4294967295) (hpl : ps.length ≤ 66) (htd : (toldP ps).length ≤ 10000)
    (hb : KBw.bInts b = octP ps ++ tl4) (ht4 : tl4.length = 4)
    (hQ : ∀ so' xs' tn' h' tk, Fr h₀ L h' m → News h₀ L h' ((S, so') :: (x, instObj 145 d) :: (d, bmO w t1 t2 tn' S (topOf ps + 1)) :: news) → SetP w so' xs' → (∀ p, p ∈ xs' ↔ p ∈ ps) → Q .none { s with heap := h', toks := tk }) :
    wpAny (model Pg w) (atD 304 11 cn cs L a ccd outer) (call (.ref 86) [.ref x, .bytes b tb]) Q E s := by
  w_top off
  revert X
  show _ → wpAny (model PySem.Challenge.rw_jg0025_01.row.prog w) _ _ _ _ _
  k_fill
  intro X
  have hlt1 : AllLt d news := by
    have : ∀ l : List (Addr × Obj), (∀ p ∈ l, p.1 < d) → AllLt d l := fun l => by
      induction l with
      | nil => intro _; trivial
      | cons p l ih => intro hp; exact ⟨hp p List.mem_cons_self, ih fun q hq => hp q (List.mem_cons_of_mem _ hq)⟩
    exact this _ hl1
  have hnd := allLt_ne hlt1
  have hl2' := ltN hl2
  have hl3' := ltN hl3
  refine wpAny_call ?_
  k_dflt (walk_at "j_enter")
  (rename Fr _ _ _ (fun y => List.lookup y _) => F1)
  replace F1 := fr_at (m' := fun y => List.lookup y [("data", Value.bytes b tb), ("self", Value.ref x)]) F1 (by with_unfolding_all rfl)
  have hlen : (octP ps ++ tl4).length = 12 + 8 * (toldP ps).length := by
    unfold octP
    simp only [List.length_append, BE_len, flat_len, ht4]; lia
  walk_at "j_steps"
  rename_i fx fd _ hfd hfx _ _ _ _ _ _ _ _ _ _ _ _ _ _ _ _ _ _ ks1 _ _ _ _ _ hks1 _ _ _ _ ks2 _ _ _ _ _ hks2 _ _ _ _ bx1 _ _ v1 tB _ hv1 _ _ bx2 _ _ v2 _ _ hv2 _ _ _ _ _ _ _ _ W _ hW hh1 F5 N5
  have hv1' : v1 = topOf ps + 1 := by
    rw [hv1, hks1]
    exact oct_head hps hpl htd ht4
  have hv2' : v2 = ((toldP ps).length : Int) := by
    rw [hv2, hks2]
    exact oct_count htd
  clear hv1 hv2
  subst hv1' hv2'
  rw [cnt_fdiv] at F5
  replace N5 := news_pick N5
  have hWfd := ltN hW.2.2.2.1
  have hfds := hfd
  have htT : (toldP ps).length < 1152921504606846976 := by lia
  have htb : ∀ x ∈ toldP ps, 0 ≤ x ∧ x < 18446744073709551616 := told_bounds (fun x hx => wordsTo_mem hx) (by
    have h2 := top_lt (ps := ps) (b := 4294967295) (by decide) fun p hp => (hps p hp).2
    rw [wordsTo_len]; unfold cnt; lia)
  (with_unfolding_all refine' For_invVF F5 ?k1 ?k2 ?_)
  case k1 => exact rfl
  case k2 => exact rfl
  walk_at "j_steps"
  (rename Fr _ _ _ _ => F6)
  (rename News _ _ _ _ => N6)
  (rename IsRange _ _ _ _ _ _ _ _ => R6)
  k_dflt (refine' iter_rng (n := (toldP ps).length)
            (fun i m₁ chg => ∃ (us : List Value) (c : Nat) (ta tc tn tM t0 : Tok), m₁ "f" = some (.ref fx) ∧ m₁ "words" = some (.ref W) ∧ m₁ "self" = some (.ref x) ∧ m₁ "max_bits" = some (.int ((cnt ps : Int) * 64) tM) ∧ m₁ "current_bit" = some (.int 0 t0) ∧ chg = [(fd, ioO w ta tc tb tn b (8 + 8 * (i : Int))), (W, listOf us.toArray c)] ∧ IntsAre us ((toldP ps).take i))
            rfl R6 rfl htT F6 N6 ?hJ ?ap ?turn ?done)
  case hJ => exact ⟨[], 0, _, _, _, _, _, rfl, rfl, rfl, rfl, rfl, rfl, .nil⟩
  case ap =>
    intro p hp q hq
    have hb1 : q.1 ≠ fd ∧ q.1 ≠ W := by
      rcases List.mem_cons.mp hq with e | hq
      · rw [e]; exact ⟨Ne.symm (Nat.ne_of_lt hfx), Nat.ne_of_lt hW.2.2.1⟩
      · rcases List.mem_cons.mp hq with e | hq
        · rw [e]; exact ⟨Nat.ne_of_lt hfd.1, Nat.ne_of_lt hW.2.2.2.2.1⟩
        · rcases List.mem_cons.mp hq with e | hq
          · rw [e]; exact ⟨Nat.ne_of_lt hfd.2.1, Nat.ne_of_lt hW.2.2.2.2.2.1⟩
          · rcases List.mem_cons.mp hq with e | hq
            · rw [e]; exact ⟨Nat.ne_of_lt hfd.2.2.1, Nat.ne_of_lt hW.2.2.2.2.2.2.1⟩
            · exact ⟨Nat.ne_of_lt (kst_ltOf hfd.2.2.2 q hq), Nat.ne_of_lt (kst_ltOf hW.2.2.2.2.2.2.2 q hq)⟩
    rcases List.mem_cons.mp hp with e | hp
    · rw [e]; exact hb1.1
    · rw [List.mem_singleton.mp hp]; exact hb1.2
  case turn =>
    rintro i t0 m₃ chg h₃ tk₃ tl hi ⟨us, c, ta, tc, tn1, tM, tz, e1, e2, e3, e4, e5, rfl, hus⟩ hne hT F₃ N₃
    have q1 : (fun y => if y = Str.ofString "_" then some (Value.int (i : Int) t0) else m₃ y) "f" = some (.ref fx) := e1
    have q2 : (fun y => if y = Str.ofString "_" then some (Value.int (i : Int) t0) else m₃ y) "words" = some (.ref W) := e2
    have q3 : (fun y => if y = Str.ofString "_" then some (Value.int (i : Int) t0) else m₃ y) "self" = some (.ref x) := e3
    have q4 : (fun y => if y = Str.ofString "_" then some (Value.int (i : Int) t0) else m₃ y) "max_bits" = some (.int ((cnt ps : Int) * 64) tM) := e4
    have q5 : (fun y => if y = Str.ofString "_" then some (Value.int (i : Int) t0) else m₃ y) "current_bit" = some (.int 0 tz) := e5
    dsimp only at hT hne
    have hxt : (fx, instObj 53 fd) ∈ tl := hT.sub _ List.mem_cons_self
    have hoff : ∀ q ∈ tl, q.1 ≠ fd := hT.off _ List.mem_cons_self
    have hofW : ∀ q ∈ tl, q.1 ≠ W := hT.off _ (List.mem_cons_of_mem _ List.mem_cons_self)
    replace F₃ := frL (bs := [("f", .ref fx), ("words", .ref W), ("self", .ref x), ("max_bits", .int ((cnt ps : Int) * 64) tM), ("current_bit", .int 0 tz)]) F₃ ⟨q1, q2, q3, q4, q5, trivial⟩
    replace N₃ : News _ _ h₃ ((fd, ioO w ta tc tb tn1 b (8 + 8 * (i : Int))) :: (W, listOf us.toArray c) :: tl) := N₃
    dsimp only [ovr] at F₃
    have hul : ((toldP ps).take i).length ≤ 16777216 := by rw [List.length_take]; lia
    clear e1 e2 e3 e4 e5 q1 q2 q3 q4 q5 F6 N6 R6
    refine wp_gen fun Qg hQg => ?_
    walk_at "j_steps"
    (rename Fr _ _ _ _ => F7)
    (rename News _ _ _ _ => N7)
    (rename IntsAre (us ++ _) _ => hi7)
    (rename _ = KFB.value _ => hv7)
    (rename _ = List.take _ (List.drop _ (octP ps ++ tl4)) => hk7)
    refine hQg _ _ ?_
    refine Turn.mk [(fd, _), (W, _)] F7 (fun p hp => N7 p (List.mem_cons_of_mem _ hp)) (fun p hp => ?_) ⟨_, _, _, _, _, _, _, rfl, rfl, rfl, rfl, rfl, place_eq ?_, ?_⟩
    · rcases List.mem_cons.mp hp with e | hp
      · rw [e]; exact hne (fd, ioO w ta tc tb tn1 b (8 + 8 * (i : Int))) List.mem_cons_self
      · rw [List.mem_singleton.mp hp]; exact hne (W, listOf us.toArray c) (List.mem_cons_of_mem _ List.mem_cons_self)
    · lia
    · have e8 : (8 + 8 * (i : Int)).toNat = 8 + 8 * i := by lia
      rw [e8] at hk7
      rw [hk7, show Int.toNat 8 = 8 from rfl, oct_word hi htb] at hv7
      rw [hv7] at hi7
      have := take_more (ns := toldP ps) (j := 0) (k := i) (by lia)
      simp only [List.drop_zero, Nat.zero_add] at this
      rw [this]
      rw [hv7]
      exact hi7
  case done =>
    rintro m₃ chg h₃ tk₃ ⟨us, c, ta, tc, tn1, tM, tz, e1, e2, e3, e4, e5, rfl, hus⟩ F₃ N₃
    rw [List.take_length] at hus
    replace F₃ := frL (bs := [("f", .ref fx), ("words", .ref W), ("self", .ref x), ("max_bits", .int ((cnt ps : Int) * 64) tM), ("current_bit", .int 0 tz)]) F₃ ⟨e1, e2, e3, e4, e5, trivial⟩
    dsimp only [ovr] at F₃
    clear e1 e2 e3 e4 e5 F6 N6 R6
    walk_at "j_steps"
    (rename Fr _ _ _ _ => F8)
    (rename News _ _ _ _ => N8)
    replace N8 := news_mid N8
    obtain ⟨R, hR⟩ : ∃ R, R = (rowsS (wordsTo ps (cnt ps))).reverse := ⟨_, rfl⟩
    have hRt : (R.flatMap fun r => mark r :: r.2) = toldP ps := by rw [hR]; rfl
    have hRw : expandS R = wordsTo ps (cnt ps) := by rw [hR]; exact expandS_rows _
    have h0 : ∀ p ∈ ps, 0 ≤ p := fun p hp => (hps p hp).1
    have hcn : cnt ps ≤ 67108864 := by
      have h2 := top_lt (ps := ps) (b := 4294967295) (by decide) fun p hp => (hps p hp).2
      unfold cnt; lia
    k_dflt (refine' while_go (n₀ := R.length)
              (fun n m₁ nw => ∃ (i : Nat) (so' : Obj) (xs' : List Int) (tM tC tI : Tok), m₁ "f" = some (.ref fx) ∧ m₁ "words" = some (.ref W) ∧ m₁ "self" = some (.ref x) ∧ m₁ "max_bits" = some (.int ((cnt ps : Int) * 64) tM) ∧ m₁ "current_bit" = some (.int (64 * (wOff R i : Int)) tC) ∧ m₁ "idx" = some (.int (tOff R i : Int) tI) ∧ nw = (S, so') :: (fd, ioO w ta tc tb tn1 b (8 + 8 * ((toldP ps).length : Int))) :: (W, listOf us.toArray c) :: (fx, instObj 53 fd) :: (x, instObj 145 d) :: (d, bmO w t1 t2 tB S (topOf ps + 1)) :: news ∧ SetP w so' xs' ∧ (∀ p, p ∈ xs' ↔ p ∈ ps ∧ p < 64 * (wOff R i : Int)) ∧ i ≤ R.length ∧ n = R.length - i)
              (fun m₁ nw => ∃ (so' : Obj) (xs' : List Int), m₁ "f" = some (.ref fx) ∧ nw = (S, so') :: (fd, ioO w ta tc tb tn1 b (8 + 8 * ((toldP ps).length : Int))) :: (W, listOf us.toArray c) :: (fx, instObj 53 fd) :: (x, instObj 145 d) :: (d, bmO w t1 t2 tB S (topOf ps + 1)) :: news ∧ SetP w so' xs' ∧ (∀ p, p ∈ xs' ↔ p ∈ ps)) F8 N8 ?hJ ?turn ?done ?hE)
    case hJ => exact ⟨0, so, [], _, _, _, rfl, rfl, rfl, rfl, rfl, rfl, rfl, hP, fun p => ⟨fun h => (nomatch h), fun h => absurd h.2 (by have := h0 p h.1; show ¬ p < 64 * ((0 : Nat) : Int); lia)⟩, Nat.zero_le _, rfl⟩
    case hE => first | passes_own | with_unfolding_all passes_own
    case done =>
      rintro m₄ nw h₄ tk₄ ⟨so', xs', e1, rfl, hP', hx'⟩ F₄ N₄
      replace F₄ := frL (bs := [("f", .ref fx)]) F₄ ⟨e1, trivial⟩
      dsimp only [ovr] at F₄
      clear e1 F8 N8
      walk_at "j_steps"
      (rename Fr _ _ _ _ => F9)
      (rename News _ _ _ _ => N9)
      refine hQ so' xs' tB _ _ F9 (fun p hp => N9 p ?_) hP' hx'
      simp only [List.mem_cons] at hp ⊢
      rcases hp with h | h | h | h <;> simp [h]
    case turn =>
      rintro n₄ m₄ nw h₄ tk₄ Y Z hY hYb hZ F₄ N₄ ⟨i, so', xs', tM4, tC4, tI4, e1, e2, e3, e4, e5, e6, rfl, hP', hx', hi, hn⟩
      replace F₄ := frL (bs := [("f", .ref fx), ("words", .ref W), ("self", .ref x), ("max_bits", .int ((cnt ps : Int) * 64) tM4), ("current_bit", .int (64 * (wOff R i : Int)) tC4), ("idx", .int (tOff R i : Int) tI4)]) F₄ ⟨e1, e2, e3, e4, e5, e6, trivial⟩
      dsimp only [ovr] at F₄
      clear e1 e2 e3 e4 e5 e6 F8 N8
      rcases Nat.lt_or_ge i R.length with hlt | hge
      case inr =>
        have hie : i = R.length := by lia
        have hto : tOff R i = (toldP ps).length := by rw [hie, tOff_end, hRt]
        have hwo : wOff R i = cnt ps := by rw [hie, wOff_end, hRw, wordsTo_len]
        have hnl : ¬ ((tOff R i : Int) < ((toldP ps).length : Int)) := by lia
        walk_at "j_steps"
        exact hZ _ <| Stands.mk (by assumption) (by assumption) ⟨so', xs', rfl, rfl, hP', fun p => ⟨fun h => ((hx' p).mp h).1, fun h => (hx' p).mpr ⟨h, by
          have h1 := cnt_bound (h0 p h) h
          rw [Int.fdiv_eq_ediv_of_nonneg _ (by decide)] at h1
          rw [hwo]; lia⟩⟩⟩
      obtain ⟨r, hr⟩ : ∃ r, R[i]? = some r := ⟨R[i], List.getElem?_eq_getElem hlt⟩
      have htb1 := told_bound hr
      have hwb1 := word_bound hr
      rw [hRt] at htb1
      rw [hRw, wordsTo_len] at hwb1
      have hto : (tOff R i : Int) < ((toldP ps).length : Int) := by lia
      have hmk := told_mark hr
      rw [hRt] at hmk
      have hmk' : VF ((toldP ps).getD (Int.toNat (tOff R i : Int)) 0) (mark r) := ⟨hmk⟩
      have hrun : r.1 < 4294967296 := by lia
      have hm2 : VF (Builtin.bitAnd (mark r) 1) 0 := ⟨mark_bit r⟩
      obtain ⟨mh, hmh⟩ : ∃ mh, (mark r).fdiv (2 ^ Int.toNat 1) = mh := ⟨_, rfl⟩
      have hm3 : VF (Builtin.bitAnd mh 4294967295) (r.1 : Int) := ⟨by rw [← hmh]; exact mark_run hrun⟩
      replace hmh : VF ((mark r).fdiv (2 ^ Int.toNat 1)) mh := ⟨hmh⟩
      have hm4 : VF ((mark r).fdiv (2 ^ Int.toNat 33)) (r.2.length : Int) := ⟨mark_lits hrun⟩
      have hxr : ∀ p, p ∈ xs' ↔ p ∈ ps ∧ p < 64 * ((wOff R i : Int) + r.1) := fun p => by
        rw [hx']
        constructor
        · rintro ⟨a1, a2⟩; exact ⟨a1, (run_skip hRw hr a1 (h0 p a1)).mpr a2⟩
        · rintro ⟨a1, a2⟩; exact ⟨a1, (run_skip hRw hr a1 (h0 p a1)).mp a2⟩
      walk_at "j_stepsI"
      k_dflt (refine' execs_join
                (fun m₁ nw => ∃ (tM tC tI tL : Tok), m₁ "f" = some (.ref fx) ∧ m₁ "words" = some (.ref W) ∧ m₁ "self" = some (.ref x) ∧ m₁ "max_bits" = some (.int ((cnt ps : Int) * 64) tM) ∧ m₁ "current_bit" = some (.int (64 * ((wOff R i + r.1 : Nat) : Int)) tC) ∧ m₁ "idx" = some (.int ((tOff R i + 1 : Nat) : Int) tI) ∧ m₁ "literal_words" = some (.int (r.2.length : Int) tL) ∧ nw = (S, so') :: (fd, ioO w ta tc tb tn1 b (8 + 8 * ((toldP ps).length : Int))) :: (W, listOf us.toArray c) :: (fx, instObj 53 fd) :: (x, instObj 145 d) :: (d, bmO w t1 t2 tB S (topOf ps + 1)) :: news) ?one ?two)
      case one =>
        intro Y1 hY1
        rcases Nat.eq_zero_or_pos r.1 with hz | hz
        · have hz1 : ¬ ((r.1 : Int) > 0) := by lia
          walk_at "j_steps"
          exact hY1 _ (Stands.mk (by assumption) (by assumption) ⟨_, _, _, _, rfl, rfl, rfl, rfl, int_eq rfl (by lia), int_eq rfl (by lia), rfl, rfl⟩)
        · have hz1 : (r.1 : Int) > 0 := by lia
          have hz2 : ¬ (64 * (wOff R i : Int) + (r.1 : Int) * 64 > (cnt ps : Int) * 64) := by lia
          walk_at "j_steps"
          exact hY1 _ (Stands.mk (by assumption) (by assumption) ⟨_, _, _, _, rfl, rfl, rfl, rfl, int_eq rfl (by lia), int_eq rfl (by lia), rfl, rfl⟩)
      case two =>
        rintro m₈ nw h₈ tk₈ ⟨tM8, tC8, tI8, tL8, e1, e2, e3, e4, e5, e6, e7, rfl⟩ F₈ N₈
        replace F₈ := frL (bs := [("f", .ref fx), ("words", .ref W), ("self", .ref x), ("max_bits", .int ((cnt ps : Int) * 64) tM8), ("current_bit", .int (64 * ((wOff R i + r.1 : Nat) : Int)) tC8), ("idx", .int ((tOff R i + 1 : Nat) : Int) tI8), ("literal_words", .int (r.2.length : Int) tL8)]) F₈ ⟨e1, e2, e3, e4, e5, e6, e7, trivial⟩
        dsimp only [ovr] at F₈
        clear e1 e2 e3 e4 e5 e6 e7
        walk_at "j_steps"
        (rename Fr _ _ _ _ => F9)
        (rename News _ _ _ _ => N9)
        (with_unfolding_all refine' For_invVF F9 ?k1 ?k2 ?_)
        case k1 => exact rfl
        case k2 => exact rfl
        walk_at "j_steps"
        (rename Fr _ _ _ _ => F10)
        (rename News _ _ _ _ => N10)
        (rename IsRange _ _ _ _ _ _ _ _ => R10)
        replace N10 : News _ _ _ ([(S, so')] ++ ((fd, ioO w ta tc tb tn1 b (8 + 8 * ((toldP ps).length : Int))) :: (W, listOf us.toArray c) :: (fx, instObj 53 fd) :: (x, instObj 145 d) :: (d, bmO w t1 t2 tB S (topOf ps + 1)) :: news)) := N10
        k_dflt (refine' iter_rng (n := r.2.length)
                  (fun k m₁ chg => ∃ (so2 : Obj) (xs2 : List Int) (tM5 tC5 tI5 : Tok), m₁ "f" = some (.ref fx) ∧ m₁ "words" = some (.ref W) ∧ m₁ "self" = some (.ref x) ∧ m₁ "max_bits" = some (.int ((cnt ps : Int) * 64) tM5) ∧ m₁ "current_bit" = some (.int (64 * ((wOff R i + r.1 + k : Nat) : Int)) tC5) ∧ m₁ "idx" = some (.int ((tOff R i + 1 + k : Nat) : Int) tI5) ∧ chg = [(S, so2)] ∧ SetP w so2 xs2 ∧ (∀ p, p ∈ xs2 ↔ p ∈ ps ∧ p < 64 * ((wOff R i + r.1 + k : Nat) : Int)))
                  rfl R10 rfl (by lia) F10 N10 ?hJ ?ap ?turn ?done)
        case hJ => exact ⟨so', xs', _, _, _, rfl, rfl, rfl, rfl, int_eq rfl (by lia), int_eq rfl (by lia), rfl, hP', fun p => by rw [hxr, show ((wOff R i + r.1 + 0 : Nat) : Int) = (wOff R i : Int) + r.1 by lia]⟩
        case ap =>
          intro p hp q hq
          rw [List.mem_singleton.mp hp]
          rcases List.mem_cons.mp hq with e | hq
          · rw [e]; exact Ne.symm (Nat.ne_of_lt hfd.1)
          · rcases List.mem_cons.mp hq with e | hq
            · rw [e]; exact Ne.symm (Nat.ne_of_lt hW.2.2.2.2.1)
            · rcases List.mem_cons.mp hq with e | hq
              · rw [e]; exact Ne.symm (Nat.ne_of_lt (Nat.lt_trans hfd.1 hfx))
              · rcases List.mem_cons.mp hq with e | hq
                · rw [e]; exact Nat.ne_of_lt hl3
                · rcases List.mem_cons.mp hq with e | hq
                  · rw [e]; exact Nat.ne_of_lt (Nat.lt_trans hl2 hl3)
                  · exact Nat.ne_of_lt (Nat.lt_trans (hl1 q hq) (Nat.lt_trans hl2 hl3))
        case turn =>
          rintro k t9 m₅ chg h₅ tk₅ tl hk ⟨so2, xs2, tM5, tC5, tI5, e1, e2, e3, e4, e5, e6, rfl, hP2, hx2⟩ hne hT F₅ N₅
          have q1 : (fun y => if y = Str.ofString "_" then some (Value.int (k : Int) t9) else m₅ y) "f" = some (.ref fx) := e1
          have q2 : (fun y => if y = Str.ofString "_" then some (Value.int (k : Int) t9) else m₅ y) "words" = some (.ref W) := e2
          have q3 : (fun y => if y = Str.ofString "_" then some (Value.int (k : Int) t9) else m₅ y) "self" = some (.ref x) := e3
          have q4 : (fun y => if y = Str.ofString "_" then some (Value.int (k : Int) t9) else m₅ y) "max_bits" = some (.int ((cnt ps : Int) * 64) tM5) := e4
          have q5 : (fun y => if y = Str.ofString "_" then some (Value.int (k : Int) t9) else m₅ y) "current_bit" = some (.int (64 * ((wOff R i + r.1 + k : Nat) : Int)) tC5) := e5
          have q6 : (fun y => if y = Str.ofString "_" then some (Value.int (k : Int) t9) else m₅ y) "idx" = some (.int ((tOff R i + 1 + k : Nat) : Int) tI5) := e6
          dsimp only at hT hne
          have hWt : (W, listOf us.toArray c) ∈ tl := hT.sub _ (List.mem_cons_of_mem _ List.mem_cons_self)
          have hxt : (x, instObj 145 d) ∈ tl := hT.sub _ (List.mem_cons_of_mem _ (List.mem_cons_of_mem _ (List.mem_cons_of_mem _ List.mem_cons_self)))
          have hdt : (d, bmO w t1 t2 tB S (topOf ps + 1)) ∈ tl := hT.sub _ (List.mem_cons_of_mem _ (List.mem_cons_of_mem _ (List.mem_cons_of_mem _ (List.mem_cons_of_mem _ List.mem_cons_self))))
          have hofS : ∀ q ∈ tl, q.1 ≠ S := hT.off _ List.mem_cons_self
          have hlit := lit_told hRw hr hk
          rw [hRt] at hlit
          obtain ⟨j, hj⟩ : ∃ j, j = wOff R i + r.1 + k := ⟨_, rfl⟩
          obtain ⟨z, hz⟩ : ∃ z, z = tOff R i + 1 + k := ⟨_, rfl⟩
          rw [← hj, ← hz] at hlit
          rw [← hj] at q5 hx2
          rw [← hz] at q6
          have hlv : VF ((toldP ps).getD (Int.toNat (z : Int)) 0) (wordAt ps (j : Int) : Int) := ⟨hlit⟩
          have hzl : (z : Int) < ((toldP ps).length : Int) := by lia
          have hjc : ¬ (64 * (j : Int) + 64 > (cnt ps : Int) * 64) := by lia
          replace F₅ := frL (bs := [("f", .ref fx), ("words", .ref W), ("self", .ref x), ("max_bits", .int ((cnt ps : Int) * 64) tM5), ("current_bit", .int (64 * (j : Int)) tC5), ("idx", .int (z : Int) tI5)]) F₅ ⟨q1, q2, q3, q4, q5, q6, trivial⟩
          replace N₅ : News _ _ h₅ ((S, so2) :: tl) := N₅
          dsimp only [ovr] at F₅
          clear e1 e2 e3 e4 e5 e6 q1 q2 q3 q4 q5 q6 F10 N10 R10
          refine wp_gen fun Qh hQh => ?_
          walk_at "j_steps"
          (rename Fr _ _ _ _ => F11)
          (rename News _ _ _ _ => N11)
          (with_unfolding_all refine' For_invVF F11 ?k1 ?k2 ?_)
          case k1 => exact rfl
          case k2 => exact rfl
          walk_at "j_steps"
          (rename Fr _ _ _ _ => F12)
          (rename News _ _ _ _ => N12)
          (rename IsRange _ _ _ _ _ _ _ _ => R12)
          replace N12 : News _ _ _ ([(S, so2)] ++ tl) := N12
          k_dflt (refine' iter_rng (n := 64)
                    (fun i m₁ chg => ∃ (so3 : Obj) (xs3 : List Int) (tM6 tC6 tI6 tL6 : Tok), m₁ "f" = some (.ref fx) ∧ m₁ "words" = some (.ref W) ∧ m₁ "self" = some (.ref x) ∧ m₁ "max_bits" = some (.int ((cnt ps : Int) * 64) tM6) ∧ m₁ "current_bit" = some (.int (64 * (j : Int)) tC6) ∧ m₁ "idx" = some (.int ((z : Int) + 1) tI6) ∧ m₁ "literal" = some (.int (wordAt ps (j : Int) : Int) tL6) ∧ chg = [(S, so3)] ∧ SetP w so3 xs3 ∧ (∀ p, p ∈ xs3 ↔ p ∈ ps ∧ p < 64 * (j : Int) + (i : Nat)))
                    rfl R12 rfl (by decide) F12 N12 ?hJ2 ?ap2 ?turn2 ?done2)
          case hJ2 => exact ⟨so2, xs2, _, _, _, _, rfl, rfl, rfl, rfl, rfl, rfl, rfl, rfl, hP2, fun p => by rw [hx2]; simp⟩
          case ap2 =>
            intro p hp q hq
            rw [List.mem_singleton.mp hp]
            exact hofS q hq
          case turn2 =>
            rintro i₂ t7 m₇ chg h₇ tk₇ tl₂ hi2 ⟨so3, xs3, tM6, tC6, tI6, tL6, e1, e2, e3, e4, e5, e6, e7, rfl, hP3, hx3⟩ hne2 hT2 F₇ N₇
            have q1 : (fun y => if y = Str.ofString "i" then some (Value.int (i₂ : Int) t7) else m₇ y) "f" = some (.ref fx) := e1
            have q2 : (fun y => if y = Str.ofString "i" then some (Value.int (i₂ : Int) t7) else m₇ y) "words" = some (.ref W) := e2
            have q3 : (fun y => if y = Str.ofString "i" then some (Value.int (i₂ : Int) t7) else m₇ y) "self" = some (.ref x) := e3
            have q4 : (fun y => if y = Str.ofString "i" then some (Value.int (i₂ : Int) t7) else m₇ y) "max_bits" = some (.int ((cnt ps : Int) * 64) tM6) := e4
            have q5 : (fun y => if y = Str.ofString "i" then some (Value.int (i₂ : Int) t7) else m₇ y) "current_bit" = some (.int (64 * (j : Int)) tC6) := e5
            have q6 : (fun y => if y = Str.ofString "i" then some (Value.int (i₂ : Int) t7) else m₇ y) "idx" = some (.int ((z : Int) + 1) tI6) := e6
            have q7 : (fun y => if y = Str.ofString "i" then some (Value.int (i₂ : Int) t7) else m₇ y) "literal" = some (.int (wordAt ps (j : Int) : Int) tL6) := e7
            dsimp only at hT2 hne2
            have hxt2 : (x, instObj 145 d) ∈ tl₂ := hT2.sub _ hxt
            have hdt2 : (d, bmO w t1 t2 tB S (topOf ps + 1)) ∈ tl₂ := hT2.sub _ hdt
            have hofS2 : ∀ q ∈ tl₂, q.1 ≠ S := hT2.off _ List.mem_cons_self
            replace F₇ := frL (bs := [("f", .ref fx), ("words", .ref W), ("self", .ref x), ("max_bits", .int ((cnt ps : Int) * 64) tM6), ("current_bit", .int (64 * (j : Int)) tC6), ("idx", .int ((z : Int) + 1) tI6), ("literal", .int (wordAt ps (j : Int) : Int) tL6)]) F₇ ⟨q1, q2, q3, q4, q5, q6, q7, trivial⟩
            replace N₇ : News _ _ h₇ ((S, so3) :: tl₂) := N₇
            dsimp only [ovr] at F₇
            have hroom : xs3.length + 1 < scanBound := by
              have := nodup_sub_len hP3.nodup (fun p hp => ((hx3 p).mp hp).1)
              have hs : 100 < scanBound := by decide
              lia
            have hoz : wordAt ps (j : Int) < 2 ^ 64 := wordAt_lt ps (j : Int)
            obtain ⟨bv, hbv⟩ : ∃ bv, VF (Builtin.bitAnd (wordAt ps (j : Int) : Int) (1 * 2 ^ Int.toNat (i₂ : Int))) bv := ⟨_, ⟨rfl⟩⟩
            clear e1 e2 e3 e4 e5 e6 e7 q1 q2 q3 q4 q5 q6 q7 F12 N12 R12
            refine wp_gen fun Qi hQi => ?_
            walk_at "j_steps"
            · (rename bv ≠ 0 => hb0)
              (rename SetP w _ (addTo _ _) => hP4)
              have hbt : ((64 * j + i₂ : Nat) : Int) ∈ ps := (bit_mem hi2).mp ((bit_test (wordAt ps (j : Int)) i₂).mp fun e => hb0 (hbv.eq.symm.trans e))
              refine hQi _ _ ?_
              refine Turn.mk [(S, _)] (by assumption) (by assumption) (fun p hp => ?_) ⟨_, _, _, _, _, _, rfl, rfl, rfl, rfl, rfl, rfl, rfl, rfl, hP4, step_bit hi2 hx3 hbt⟩
              rw [List.mem_singleton.mp hp]; exact hne2 (S, so3) List.mem_cons_self
            · (rename bv = 0 => hb0)
              have hbt : ((64 * j + i₂ : Nat) : Int) ∉ ps := fun hm => (bit_test (wordAt ps (j : Int)) i₂).mpr ((bit_mem hi2).mpr hm) (hbv.eq.trans hb0)
              refine hQi _ _ ?_
              refine Turn.mk [(S, so3)] (by assumption) (by assumption) (fun p hp => ?_) ⟨so3, xs3, _, _, _, _, rfl, rfl, rfl, rfl, rfl, rfl, rfl, rfl, hP3, step_nobit hx3 hbt⟩
              rw [List.mem_singleton.mp hp]; exact hne2 (S, so3) List.mem_cons_self
          case done2 =>
            rintro m₇ chg h₇ tk₇ ⟨so3, xs3, tM6, tC6, tI6, tL6, e1, e2, e3, e4, e5, e6, e7, rfl, hP3, hx3⟩ F₇ N₇
            replace F₇ := frL (bs := [("f", .ref fx), ("words", .ref W), ("self", .ref x), ("max_bits", .int ((cnt ps : Int) * 64) tM6), ("current_bit", .int (64 * (j : Int)) tC6), ("idx", .int ((z : Int) + 1) tI6)]) F₇ ⟨e1, e2, e3, e4, e5, e6, trivial⟩
            dsimp only [ovr] at F₇
            replace N₇ : News _ _ h₇ ((S, so3) :: tl) := N₇
            clear e1 e2 e3 e4 e5 e6 e7 F12 N12 R12
            walk_at "j_steps"
            refine hQh _ _ ?_
            refine Turn.mk [(S, so3)] (by assumption) (by assumption) (fun p hp => ?_) ⟨so3, xs3, _, _, _, rfl, rfl, rfl, rfl, int_eq rfl (by lia), int_eq rfl (by lia), rfl, hP3, fun p => ?_⟩
            · rw [List.mem_singleton.mp hp]; exact hne (S, so2) List.mem_cons_self
            · rw [hx3, show (64 : Int) * ((wOff R i + r.1 + (k + 1) : Nat) : Int) = 64 * (j : Int) + ((64 : Nat) : Int) by lia]
        case done =>
          rintro m₅ chg h₅ tk₅ ⟨so2, xs2, tM5, tC5, tI5, e1, e2, e3, e4, e5, e6, rfl, hP2, hx2⟩ F₅ N₅
          replace F₅ := frL (bs := [("f", .ref fx), ("words", .ref W), ("self", .ref x), ("max_bits", .int ((cnt ps : Int) * 64) tM5), ("current_bit", .int (64 * ((wOff R i + r.1 + r.2.length : Nat) : Int)) tC5), ("idx", .int ((tOff R i + 1 + r.2.length : Nat) : Int) tI5)]) F₅ ⟨e1, e2, e3, e4, e5, e6, trivial⟩
          dsimp only [ovr] at F₅
          clear e1 e2 e3 e4 e5 e6 F10 N10 R10
          walk_at "j_steps"
          have hts := tOff_succ hr
          have hws := wOff_succ hr
          exact hY _ <| Stands.mk (by assumption) (by assumption) ⟨R.length - (i + 1), by lia, i + 1, so2, xs2, _, _, _, rfl, rfl, rfl, rfl, int_eq rfl (by rw [hws]), int_eq rfl (by rw [hts]), rfl, hP2, fun p => by rw [hx2, hws], by lia, rfl⟩

set_option maxRecDepth 100000 in
set_option maxHeartbeats 8000000 in
/-- a new bitmap, nothing given -/
theorem made_it {w : World} {cn : Str} {cs : Scope} {a : Addr} {ccd : Value} {outer : List Env} {A₀ : Around} {base h₀ : Heap} {L : Addr} {m : Str → Option Value} {news : List (Addr × Obj)} {s : Shared} {mean : ExcName → Option Value} {mg mb : Str → Option Value}
    {Q E : Value → Shared → Prop} (B : Below A₀ base outer h₀) (F : Fr h₀ L s.heap m) (X : (hd.heap_39 w.params).In h₀) (N : News h₀ L s.heap news) (T : Top hd.view_39 Lz mean mg mb h₀) (hk : cs.kind = .function)
    (hQ : ∀ x d S so t1 t2 tn h' tk, Fr h₀ L h' m → News h₀ L h' ((S, so) :: (x, instObj 145 d) :: (d, bmO w t1 t2 tn S 0) :: news) → (∀ q ∈ news, q.1 < d) → d < x → x < S → SetP w so [] → Q (.ref x) { s with heap := h', toks := tk }) :
    wpAny (model Pg w) (atD 302 7 cn cs L a ccd outer) (call (.ref 145) []) Q E s := by
  w_top off
  revert X
  show _ → wpAny (model PySem.Challenge.rw_jg0025_01.row.prog w) _ _ _ _ _
  k_fill
  intro X
  k_dflt (refine' call_cls ?k1 ?k2 ?k3 ?k4 ?k5 ?k6 ?_; (case k1 => k_asm); (case k2 => k_asm); (case k3 => k_asm); (case k4 => k_is); (case k5 => k_is); (case k6 => k_is); k_whole; intro x' d' h' F' N' l1 l2; (try k_lt l1); (try k_lt2 l2); (try k_sweep))
  k_dflt (walk_at "j_enter")
  (rename Fr _ _ _ (fun y => List.lookup y _) => F1)
  replace F1 := fr_at (m' := fun y => List.lookup y [("data", Value.none), ("self", Value.ref x')]) F1 (by with_unfolding_all rfl)
  walk_at "j_steps"
  (rename Fr _ _ _ _ => F2)
  (rename News _ _ _ _ => N2)
  (rename SetP _ _ _ => hP)
  exact hQ x' d' _ _ _ _ _ _ _ F2 N2 l1 l2 (by first | assumption | exact And.left (by assumption)) hP

set_option maxRecDepth 100000 in
set_option maxHeartbeats 8000000 in
/-- add -/
theorem add_it {w : World} {cn : Str} {cs : Scope} {a : Addr} {ccd : Value} {outer : List Env} {A₀ : Around} {base h₀ : Heap} {L x d S : Addr} {m : Str → Option Value} {tl : List (Addr × Obj)} {s : Shared} {so : Obj} {xs : List Int} {n p : Int} {t1 t2 tn tp : Tok} {mean : ExcName → Option Value} {mg mb : Str → Option Value}
    {Q E : Value → Shared → Prop} (B : Below A₀ base outer h₀) (F : Fr h₀ L s.heap m) (X : (hd.heap_39 w.params).In h₀) (N : News h₀ L s.heap ((S, so) :: (d, bmO w t1 t2 tn S n) :: tl)) (T : Top hd.view_39 Lz mean mg mb h₀) (hk : cs.kind = .function)
    (hx : (x, instObj 145 d) ∈ tl) (o1 : ∀ q ∈ tl, q.1 ≠ S) (o2 : ∀ q ∈ tl, q.1 ≠ d) (hSd : S ≠ d) (hP : SetP w so xs) (hroom : xs.length + 1 < scanBound)
    (hQ : ∀ so' tn' h' tk, Fr h₀ L h' m → News h₀ L h' ((S, so') :: (d, bmO w t1 t2 tn' S (max n (p + 1))) :: tl) → SetP w so' (addTo xs p) → Q .none { s with heap := h', toks := tk }) :
    wpAny (model Pg w) (atD 302 7 cn cs L a ccd outer) (call (.ref 142) [.ref x, .int p tp]) Q E s := by
  w_top off
  revert X
  show _ → wpAny (model PySem.Challenge.rw_jg0025_01.row.prog w) _ _ _ _ _
  k_fill
  intro X
  have hdS : d ≠ S := Ne.symm hSd
  refine wpAny_call ?_
  k_dflt (walk_at "j_enter")
  (rename Fr _ _ _ (fun y => List.lookup y _) => F1)
  replace F1 := fr_at (m' := fun y => List.lookup y [("bit", Value.int p tp), ("self", Value.ref x)]) F1 (by with_unfolding_all rfl)
  walk_at "j_steps"
  (rename Fr _ _ _ _ => F2)
  (rename News _ _ _ _ => N2)
  (rename SetP _ _ (addTo _ _) => hP2)
  have e : (if p + 1 > n then p + 1 else n) = max n (p + 1) := by split <;> lia
  rw [e] at N2
  exact hQ _ _ _ _ F2 N2 hP2

theorem lines_JM31 : True := by
  (k_with "call ref" => first | ((k_here; (with_reducible show wpAny _ _ (call (Value.ref 86) [Value.ref _, Value.bytes _ _]) _ _ _); k_dflt (with_unfolding_all refine' dec_it ?zB ?zF ?zX ?zN ?zT ?zhk ?zh1 ?zh2 ?zh3 ?zhP ?zhps ?zhpl ?zhtd ?zhb ?zht4 ?_; (case zB => k_asm); (case zF => k_asm); (case zX => k_asm); (case zN => k_asm); (case zT => k_asm); (case zhk => exact rfl); (case zh1 => assumption); (case zh2 => assumption); (case zh3 => first | assumption | exact And.left (by assumption)); (case zhP => assumption); (case zhps => assumption); (case zhpl => assumption); (case zhtd => assumption); (case zhb => assumption); (case zht4 => assumption); k_whole); intro _ _ _ _ _ _ _ _ _; (try k_sweep))) | fail "no")
  trivial
theorem j_trueb {prog : Program} {w : World} {A : Around} {E : Value → Shared → Prop} {s : Shared} {b : Array UInt8} {t : Tok} {ks : List Int} {Q : Bool → Shared → Prop} (hk : KBw.bInts b = ks) (hp : 0 < ks.length) (hz : ks.length ≤ 16777216)
    (h : ∀ k, Q true { s with toks := k }) : wpAny (model prog w) A (truthy (.bytes b t)) Q E s := by
  refine KBw.truthy_K hk (by lia) ?_
  rw [decide_eq_true hp]
  exact h _
theorem lines_JM32 : True := by
  (k_with "truthy bytes" => first | ((k_here; (with_reducible show wpAny _ _ (truthy (Value.bytes _ _)) _ _ _); k_dflt (refine' j_trueb ?zb ?zp ?zz ?_; (case zb => assumption); (case zp => assumption); (case zz => assumption); k_whole); intro _)) | fail "no")
  trivial
set_option maxRecDepth 100000 in
set_option maxHeartbeats 8000000 in
/-- a new bitmap of octets -/
theorem again_it {w : World} {cn : Str} {cs : Scope} {a : Addr} {ccd : Value} {outer : List Env} {A₀ : Around} {base h₀ : Heap} {L : Addr} {m : Str → Option Value} {news : List (Addr × Obj)} {s : Shared} {b : Array UInt8} {tb : Tok} {ps tl4 : List Int} {mean : ExcName → Option Value} {mg mb : Str → Option Value}
    {Q E : Value → Shared → Prop} (B : Below A₀ base outer h₀) (F : Fr h₀ L s.heap m) (X : (hd.heap_39 w.params).In h₀) (N : News h₀ L s.heap news) (T : Top hd.view_39 Lz mean mg mb h₀) (hk : cs.kind = .function)
    (hps : ∀ p ∈ ps, 0 ≤ p ∧ p < 4294967295) (hpl : ps.length ≤ 66) (htd : (toldP ps).length ≤ 10000) (hb : KBw.bInts b = octP ps ++ tl4) (ht4 : tl4.length = 4)
    (hQ : ∀ x d S so xs t1 t2 tn h' tk, Fr h₀ L h' m → News h₀ L h' ((S, so) :: (x, instObj 145 d) :: (d, bmO w t1 t2 tn S (topOf ps + 1)) :: news) → (∀ q ∈ news, q.1 < d) → d < x → x < S → SetP w so xs → (∀ p, p ∈ xs ↔ p ∈ ps) → Q (.ref x) { s with heap := h', toks := tk }) :
    wpAny (model Pg w) (atD 302 7 cn cs L a ccd outer) (call (.ref 145) [.bytes b tb]) Q E s := by
  w_top off
  revert X
  show _ → wpAny (model PySem.Challenge.rw_jg0025_01.row.prog w) _ _ _ _ _
  k_fill
  intro X
  have hlen : (octP ps ++ tl4).length = 12 + 8 * (toldP ps).length := by
    unfold octP
    simp only [List.length_append, BE_len, flat_len, ht4]; lia
  have hpos : 0 < (octP ps ++ tl4).length := by lia
  have hzz : (octP ps ++ tl4).length ≤ 16777216 := by lia
  k_dflt (refine' call_cls ?k1 ?k2 ?k3 ?k4 ?k5 ?k6 ?_; (case k1 => k_asm); (case k2 => k_asm); (case k3 => k_asm); (case k4 => k_is); (case k5 => k_is); (case k6 => k_is); k_whole; intro x' d' h' F' N' l1 l2; (try k_lt l1); (try k_lt2 l2); (try k_sweep))
  k_dflt (walk_at "j_enter")
  (rename Fr _ _ _ (fun y => List.lookup y _) => F1)
  replace F1 := fr_at (m' := fun y => List.lookup y [("data", Value.bytes b tb), ("self", Value.ref x')]) F1 (by with_unfolding_all rfl)
  walk_at "j_steps"
  (rename Fr _ _ _ _ => F2)
  (rename News _ _ _ _ => N2)
  (rename (∀ p, p ∈ _ ↔ p ∈ ps) => hx3)
  exact hQ x' d' _ _ _ _ _ _ _ _ F2 N2 l1 l2 (by first | assumption | exact And.left (by assumption)) (by assumption) hx3

set_option maxRecDepth 100000 in
set_option maxHeartbeats 8000000 in
/-- in -/
theorem in_it {w : World} {cn : Str} {cs : Scope} {a : Addr} {ccd : Value} {outer : List Env} {A₀ : Around} {base h₀ : Heap} {L x d S : Addr} {m : Str → Option Value} {news : List (Addr × Obj)} {s : Shared} {so : Obj} {xs : List Int} {n p : Int} {t1 t2 tn tp : Tok} {mean : ExcName → Option Value} {mg mb : Str → Option Value}
    {Q E : Value → Shared → Prop} (B : Below A₀ base outer h₀) (F : Fr h₀ L s.heap m) (X : (hd.heap_39 w.params).In h₀) (N : News h₀ L s.heap news) (T : Top hd.view_39 Lz mean mg mb h₀) (hk : cs.kind = .function)
    (hx : (x, instObj 145 d) ∈ news) (hb : (d, bmO w t1 t2 tn S n) ∈ news) (hs : (S, so) ∈ news) (hP : SetP w so xs)
    (hQ : ∀ h' tk, Fr h₀ L h' m → News h₀ L h' news → Q (.bool (decide (p ∈ xs))) { s with heap := h', toks := tk }) :
    wpAny (model Pg w) (atD 302 7 cn cs L a ccd outer) (call (.ref 100) [.ref x, .int p tp]) Q E s := by
  w_top off
  revert X
  show _ → wpAny (model PySem.Challenge.rw_jg0025_01.row.prog w) _ _ _ _ _
  k_fill
  intro X
  refine wpAny_call ?_
  k_dflt (walk_at "j_enter")
  (rename Fr _ _ _ (fun y => List.lookup y _) => F1)
  replace F1 := fr_at (m' := fun y => List.lookup y [("bit", Value.int p tp), ("self", Value.ref x)]) F1 (by with_unfolding_all rfl)
  walk_at "j_steps"
  (rename Fr _ _ _ _ => F2)
  (rename News _ _ _ _ => N2)
  exact hQ _ _ F2 N2

theorem same_use {w : World} {so : Obj} {n : Nat} {xs ps : List Int} (hP : SetP w so xs) (hm : ∀ p, p ∈ xs ↔ p ∈ ps) (h : ∀ xs : List Int, xs.Nodup → (∀ p, p ∈ xs ↔ p ∈ ps) → xs.length = n) : xs.length = n := h xs hP.nodup hm
theorem sub_use {xs ps : List Int} (hm : ∀ p, p ∈ xs ↔ p ∈ ps) : ∀ k ∈ xs, (fun k => decide (k ∈ ps)) k = true := fun k hk => decide_eq_true ((hm k).mp hk)
theorem news_none {h₀ h : Heap} {L : Addr} {news : List (Addr × Obj)} (_N : News h₀ L h news) : News h₀ L h [] := fun p hp => (nomatch hp)
theorem one_len (p : Int) : [p].length ≤ 66 := by simp
structure FarP (z : Int) : Prop where
  ge : 0 ≤ z
  lt : z < 4294967295
theorem far_ok {z : Int} (h : FarP z) : ∀ p ∈ [z], 0 ≤ p ∧ p < 4294967295 := fun p hp => by
  rw [List.mem_singleton.mp hp]; exact ⟨h.ge, h.lt⟩
theorem j_far {prog : Program} {w : World} {A : Around} {E : Value → Shared → Prop} {s : Shared} {a : Int} {t u : Tok} {Q : Value → Shared → Prop} (h : ∀ r t' k, FarP r → Q (.int r t') { s with toks := k }) :
    wpAny (model prog w) A (binaryOp .Mod (.int a t) (.int (2 ^ Int.toNat 32 - 1) u)) Q E s := by
  have e : (2 : Int) ^ Int.toNat 32 - 1 = 4294967295 := by decide
  rw [e]
  exact mod_int' (by decide) (h _ _ _ ⟨Int.fmod_nonneg_of_pos _ (by decide), Int.fmod_lt_of_pos _ (by decide)⟩)
local macro_rules | `(tactic| walk_at "j_octeq") => `(tactic| (intro _ _ _ _ _ _ _ hb'; (rename octP _ = octP _ => e'); rw [e'] at hb'; (try k_sweep)))
theorem lines_JQ1 : True := by
  (k_with "binaryOp Mod int int" => first | ((k_here; (with_reducible show wpAny _ _ (binaryOp _ (Value.int _ _) (Value.int (2 ^ Int.toNat 32 - 1) _)) _ _ _); k_dflt (refine' j_far ?_; k_whole); intro _ _ _ _)) | fail "no")
  (k_with "j_same" => (exact same_use (by with_reducible assumption) (by with_reducible assumption) (by with_reducible assumption)))
  (k_with "j_sub" => (exact sub_use (by with_reducible assumption)))
  (k_with "call ref" => first | ((k_here; (with_reducible show wpAny _ _ (call (Value.ref 145) ([] ++ [])) _ _ _); k_dflt (with_unfolding_all refine' made_it ?zB ?zF ?zX ?zN ?zT ?zhk ?_; (case zB => k_asm); (case zF => k_asm); (case zX => k_asm); (case zN => k_asm); (case zT => k_asm); (case zhk => exact rfl); k_whole); intro _ _ _ _ _ _ _ _ _ _ _ _ _ _ _; (try k_sweep))) | fail "no")
  (k_with "call ref" => first | ((k_here; (with_reducible show wpAny _ _ (call (Value.ref 145) _) _ _ _); k_dflt (with_unfolding_all refine' again_it ?zB ?zF ?zX ?zN ?zT ?zhk ?zhps ?zhpl ?zhtd ?zhb ?zht4 ?_; (case zB => k_asm); (case zF => k_asm); (case zX => k_asm); (case zN => k_asm); (case zT => k_asm); (case zhk => exact rfl); (case zhb => with_reducible assumption); (case zhps => first | (with_reducible assumption) | exact far_ok (by with_reducible assumption)); (case zhpl => first | (with_reducible assumption) | exact one_len _); (case zhtd => first | (with_reducible assumption) | lia); (case zht4 => first | (with_reducible assumption) | exact List.length_replicate); k_whole); intro _ _ _ _ _ _ _ _ _ _ _ _ _ _ _ _ _; (try k_sweep))) | fail "no")
  (k_with "call ref" => first | ((k_here; (with_reducible show wpAny _ _ (call (Value.ref 142) [Value.ref _, Value.int _ _]) _ _ _); k_dflt (with_unfolding_all refine' add_it ?zB ?zF ?zX ?zN ?zT ?zhk ?zhx ?zo1 ?zo2 ?zhSd ?zhP ?zhroom ?_; (case zB => k_asm); (case zF => k_asm); (case zX => k_asm); (case zN => k_asm); (case zT => k_asm); (case zhk => exact rfl); (case zhx => assumption); (case zo1 => assumption); (case zo2 => assumption); (case zhSd => assumption); (case zhP => assumption); (case zhroom => assumption); k_whole); intro _ _ _ _ _ _ _; (try k_sweep))) | fail "no")
  (k_with "call ref" => first | ((k_here; (with_reducible show wpAny _ _ (call (Value.ref 93) _) _ _ _); k_dflt (with_unfolding_all refine' enc_it ?zB ?zF ?zX ?zN ?zT ?zhk ?zhx ?zhb ?zhs ?zhP ?zhxs ?zhfull ?_; (case zB => k_asm); (case zF => k_asm); (case zX => k_asm); (case zN => k_asm); (case zT => k_asm); (case zhk => exact rfl); (case zhx => k_mem); (case zhb => k_mem); (case zhs => k_mem); (case zhP => assumption); (case zhxs => assumption); (case zhfull => assumption); k_whole); walk_at "j_octeq")) | fail "no")
  (k_with "call ref" => first | ((k_here; (with_reducible show wpAny _ _ (call (Value.ref 156) _) _ _ _); k_dflt (with_unfolding_all refine' law_oct ?zB ?zF ?zX ?zN ?zT ?zhk ?zhl ?zhi ?zhlen ?zhps ?_; (case zB => k_asm); (case zF => k_asm); (case zX => k_asm); (case zN => k_asm); (case zT => k_asm); (case zhk => exact rfl); (case zhl => k_mem); (case zhi => (walk_at "j_ints")); (case zhlen => first | (with_reducible assumption) | exact one_len _); (case zhps => first | (with_reducible assumption) | exact far_ok (by with_reducible assumption)); k_whole); intro _ _ _ _ _ _ _ _; (try k_sweep))) | fail "no")
  trivial
theorem j_cut4 {prog : Program} {w : World} {A : Around} {E : Value → Shared → Prop} {s : Shared} {value slice : PySem.Expr} {b : Array UInt8} {t : Tok} {h₀ : Heap} {L : Addr} {m : PySem.Str → Option Value} {news : List (Addr × Obj)} {ks ls : List Int} {Q : Value → Shared → Prop} {tq : Tok}
    (hF : Fr h₀ L s.heap m) (hN : News h₀ L s.heap news) (hb : KBw.bInts b = ks ++ ls) (hl : ls.length = 4) (hz : ks.length ≤ 1048572)
    (h : ∀ bs h' t' k, Fr h₀ L h' m → News h₀ L h' news → KBw.bInts bs = ks → Q (.bytes bs t') { s with heap := h', toks := k })
    (hs : subscripted slice false (.bytes b t) (.ref s.heap.objs.size) = operate [.ref s.heap.objs.size, .bytes b t] (getItem (.bytes b t) (.ref s.heap.objs.size)) := by with_unfolding_all rfl)
    (ht : ∀ r, letTemporaryGo value (.bytes b t) r = pure () := by intro _; with_unfolding_all rfl) :
    wpAny (model prog w) A (subscriptTail value slice (.bytes b t) (.ref s.heap.objs.size)) Q E { s with heap := s.heap.push { cls := .type "slice", data := .fields #[.none, .int (-4) tq, .none] } } :=
  j_slice4 hF hN hb (by rw [List.length_append]; lia) (by rw [List.length_append]; lia) (fun bs h' t' k F' N' e => h bs h' t' k F' N' (by
    rw [e, List.length_append, hl, Nat.add_sub_cancel]
    exact List.take_left' rfl)) hs ht
theorem oct_len {ps : List Int} : (octP ps).length = 8 + 8 * (toldP ps).length := by
  unfold octP
  simp only [List.length_append, BE_len, flat_len]
  lia
theorem lines_JQ2 : True := by
  (k_with "subscriptTail" => first | ((k_here; (with_reducible show wpAny _ _ (subscriptTail _ (Expr.Slice none _ none _) (Value.bytes _ _) (Value.ref _)) _ _ _); (with_reducible rename Fr _ _ _ _ => F'); (with_reducible rename News _ _ _ _ => N'); k_dflt (refine' j_cut4 (s := ⟨_, _, _, _, _⟩) F' N' ?zb ?zl ?zz ?_ ?zhs ?zht; (case zb => assumption); (case zl => assumption); (case zz => assumption); (case zhs => with_unfolding_all rfl); (case zht => (intro _; with_unfolding_all rfl)); k_whole); intro _ _ _ _ _ _ _; (try k_sweep))) | fail "no")
  (k_with "compareOp NotEq bytes bytes" => first | ((k_here; k_dflt (refine' j_neb ?za ?zb ?_; (case za => assumption); (case zb => assumption); k_whole))) | fail "no")
  (k_with "compareOp NotEq ref ref" => first | ((k_here; (with_reducible show wpAny _ _ (compareOp _ (Value.ref _) (Value.ref _)) _ _ _); k_dflt (refine' j_setne ?zN ?za ?zb ?zP ?zT ?zn ?zl ?zu ?_; (case zN => k_asm); (case za => k_mem); (case zb => k_mem); (case zP => with_reducible assumption); (case zT => with_reducible assumption); (case zn => (walk_at "j_same")); (case zl => (walk_at "j_sub")); (case zu => (with_unfolding_all exact Nat.le_of_ble_eq_true rfl)); k_whole))) | fail "no")
  (k_with "compareOp Eq ref ref" => first | ((k_here; (with_reducible show wpAny _ _ (compareOp _ (Value.ref _) (Value.ref _)) _ _ _); k_dflt (refine' j_seteq ?zN ?za ?zb ?zP ?zT ?zn ?zl ?zu ?_; (case zN => k_asm); (case za => k_mem); (case zb => k_mem); (case zP => with_reducible assumption); (case zT => with_reducible assumption); (case zn => (walk_at "j_same")); (case zl => (walk_at "j_sub")); (case zu => (with_unfolding_all exact Nat.le_of_ble_eq_true rfl)); k_whole))) | fail "no")
  (k_with "call type:set" => first | ((k_here; (with_reducible show wpAny _ _ (call (Value.type "set") [Value.ref _]) _ _ _); k_dflt (refine' j_setof ?zh ?zF ?zN ?zl ?zi ?zz ?_; (case zh => exact rfl); (case zF => k_asm); (case zN => k_asm); (case zl => k_mem); (case zi => (walk_at "j_ints")); (case zz => (walk_at "j_num")); k_whole); intro _ _ _ _ _ _ _ _ _ _; (try (rename_i jlt _ _; k_lt jlt; revert jlt; intro _)); (try k_sweep))) | fail "no")
  (k_with "call type:bytes" => first | ((k_here; (with_reducible show wpAny _ _ (call (Value.type "bytes") [Value.int 4 _]) _ _ _); k_dflt (refine' j_bytes4 ?zh ?_; (case zh => exact rfl); k_whole); intro _ _ _ _)) | fail "no")
  (k_with "binaryOp Add bytes bytes" => first | ((k_here; (with_reducible show wpAny _ _ (binaryOp _ (Value.bytes _ _) (Value.bytes _ _)) _ _ _); k_dflt (refine' j_addb ?za ?zb ?zz ?_; (case za => with_reducible assumption); (case zb => with_reducible assumption); (case zz => (simp only [oct_len, List.length_replicate]; lia)); k_whole); intro _ _ _)) | fail "no")
  trivial
theorem in_yes {w : World} {cn : Str} {cs : Scope} {a : Addr} {ccd : Value} {outer : List Env} {A₀ : Around} {base h₀ : Heap} {L x d S : Addr} {m : Str → Option Value} {news : List (Addr × Obj)} {s : Shared} {so : Obj} {xs : List Int} {n p : Int} {t1 t2 tn tp : Tok} {mean : ExcName → Option Value} {mg mb : Str → Option Value}
    {Q E : Value → Shared → Prop} (B : Below A₀ base outer h₀) (F : Fr h₀ L s.heap m) (X : (hd.heap_39 w.params).In h₀) (N : News h₀ L s.heap news) (T : Top hd.view_39 Lz mean mg mb h₀) (hk : cs.kind = .function)
    (hx : (x, instObj 145 d) ∈ news) (hb : (d, bmO w t1 t2 tn S n) ∈ news) (hs : (S, so) ∈ news) (hP : SetP w so xs) (hin : p ∈ xs)
    (hQ : ∀ h' tk, Fr h₀ L h' m → News h₀ L h' news → Q (.bool true) { s with heap := h', toks := tk }) :
    wpAny (model Pg w) (atD 302 7 cn cs L a ccd outer) (call (.ref 100) [.ref x, .int p tp]) Q E s :=
  in_it B F X N T hk hx hb hs hP fun h' tk F' N' => by rw [decide_eq_true hin]; exact hQ h' tk F' N'
theorem in_no {w : World} {cn : Str} {cs : Scope} {a : Addr} {ccd : Value} {outer : List Env} {A₀ : Around} {base h₀ : Heap} {L x d S : Addr} {m : Str → Option Value} {news : List (Addr × Obj)} {s : Shared} {so : Obj} {xs : List Int} {n p : Int} {t1 t2 tn tp : Tok} {mean : ExcName → Option Value} {mg mb : Str → Option Value}
    {Q E : Value → Shared → Prop} (B : Below A₀ base outer h₀) (F : Fr h₀ L s.heap m) (X : (hd.heap_39 w.params).In h₀) (N : News h₀ L s.heap news) (T : Top hd.view_39 Lz mean mg mb h₀) (hk : cs.kind = .function)
    (hx : (x, instObj 145 d) ∈ news) (hb : (d, bmO w t1 t2 tn S n) ∈ news) (hs : (S, so) ∈ news) (hP : SetP w so xs) (hin : ¬ p ∈ xs)
    (hQ : ∀ h' tk, Fr h₀ L h' m → News h₀ L h' news → Q (.bool false) { s with heap := h', toks := tk }) :
    wpAny (model Pg w) (atD 302 7 cn cs L a ccd outer) (call (.ref 100) [.ref x, .int p tp]) Q E s :=
  in_it B F X N T hk hx hb hs hP fun h' tk F' N' => by rw [decide_eq_false hin]; exact hQ h' tk F' N'
theorem top_one {z : Int} (h : FarP z) : topOf [z] = z := by
  have := h.ge
  show max (-1) z = z
  lia
theorem lines_JQ3 : True := by
  (k_with "call ref" => first | ((k_here; (with_reducible show wpAny _ _ (call (Value.ref 100) _) _ _ _); k_dflt (with_unfolding_all refine' in_yes ?zB ?zF ?zX ?zN ?zT ?zhk ?zhx ?zhb ?zhs ?zhP ?zhin ?_; (case zB => k_asm); (case zF => k_asm); (case zX => k_asm); (case zN => k_asm); (case zT => k_asm); (case zhk => exact rfl); (case zhx => k_mem); (case zhb => k_mem); (case zhs => k_mem); (case zhP => with_reducible assumption); (case zhin => with_reducible assumption); k_whole); intro _ _ _ _; (try k_sweep))) | fail "no")
  (k_with "call ref" => first | ((k_here; (with_reducible show wpAny _ _ (call (Value.ref 100) _) _ _ _); k_dflt (with_unfolding_all refine' in_no ?zB ?zF ?zX ?zN ?zT ?zhk ?zhx ?zhb ?zhs ?zhP ?zhin ?_; (case zB => k_asm); (case zF => k_asm); (case zX => k_asm); (case zN => k_asm); (case zT => k_asm); (case zhk => exact rfl); (case zhx => k_mem); (case zhb => k_mem); (case zhs => k_mem); (case zhP => with_reducible assumption); (case zhin => with_reducible assumption); k_whole); intro _ _ _ _; (try k_sweep))) | fail "no")
  (k_with "j_stepsT" => first | (repeat' (first | (k_unfold; (try dsimp only)) | (k_end; wrow_close) | (walk_at "j_guard"; (fail_if_success (with_reducible show wpAny _ _ (exec (Stmt.Assign [Expr.Name (Str.ofString "told") _] _ _) _) _ _ _)); (first | walk1 | (dsimp only; walk1)); (try dsimp only)) | (leave1; walk_say "STEP leave1"; try dsimp only) | fail "no step")) | fail "no")
  (k_with "compareOp In int ref" => first | ((k_here; (with_reducible show wpAny _ _ (compareOp CmpOp.In _ (Value.ref _)) _ _ _); k_dflt (refine' in_K ?zk1 ?zk2 ?zk3 ?zk4 ?zk5 ?_; (case zk1 => k_asm); (case zk2 => k_asm); (case zk3 => k_inst); (case zk4 => k_is); (case zk5 => k_is); k_whole))) | fail "no")
  (k_with "compareOp NotIn int ref" => first | ((k_here; (with_reducible show wpAny _ _ (compareOp CmpOp.NotIn _ (Value.ref _)) _ _ _); k_dflt (refine' notIn_K ?zk1 ?zk2 ?zk3 ?zk4 ?zk5 ?_; (case zk1 => k_asm); (case zk2 => k_asm); (case zk3 => k_inst); (case zk4 => k_is); (case zk5 => k_is); k_whole))) | fail "no")
  trivial
theorem j_eqs {prog : Program} {w : World} {A : Around} {E : Value → Shared → Prop} {s : Shared} {a : Int} {t u : Tok} {Q : Value → Shared → Prop} (h : Q (.bool true) s) : wpAny (model prog w) A (compareOp .Eq (.int a t) (.int a u)) Q E s := by
  refine eq_int ?_
  simpa using h
theorem lines_JQ4 : True := by
  (k_with "compareOp Eq int int" => first | ((k_here; (with_reducible refine' j_eqs ?_))) | fail "no")
  trivial
set_option maxRecDepth 100000 in
set_option maxHeartbeats 16000000 in
theorem law_go : PySem.Challenge.rw_jg0025_01.Holds := hd rfl rfl rfl (by
  w_top off
  k_go0
  all_goals try k_fold
  walk_at "j_steps"
  rename_i w s0 s1 mg mb G Y fa o pm doc kV ho hg KX X V GL T B TE TW wa wb M wc wd hcd ns hs hlay hL1 hr1 hl2 we wf sc svs wi hLs ra w1 r0 hI hr hc1 hc2 K0 hD h1 F0 N0
  clear hD hcd G Y ra w1 r0 hr B TE TW M hs hlay hL1 hr1 hl2 X V
  have hn63 : ns.length ≤ 63 := by lia
  have hl6 : (ns.take 6).length ≤ 6 := by rw [List.length_take]; lia
  have hpl := pgrid_len (ns.take 6)
  k_dflt (refine' two_assign (cnt := pcnt) (f := pfun) (ns := ns.take 6) F0 ?hh ?hLe ?hsw ?hclos ?hcell ?hkind ?hnames ?hx1 ?hx2 ?hne ?hy ?hp ?hlen ?hcnt ?h ?hs ?hs2)
  case hh => exact rfl
  case hLe => exact rfl
  case hsw => with_unfolding_all rfl
  case hclos => exact rfl
  case hcell => decide
  case hkind => exact rfl
  case hnames => decide
  case hx1 => exact rfl
  case hx2 => exact rfl
  case hne => decide
  case hy => exact rfl
  case hp => exact rfl
  case hlen => lia
  case hcnt => exact fun n _ => pcnt_big n
  case hs => (intro x; rfl)
  case hs2 => (intro C x; rfl)
  case h =>
    iterate 7 (walk1; try dsimp only)
    k_dflt (refine' kmk_slice_ints (s := ⟨_, _, _, _, _⟩) F0 N0 (Fr.lst F0 hLs) IsPart.none (IsPart.int _ _) hI (kmk_upto hI (by decide)) rfl ?_ ?s1 ?s2 ?s3)
    case s1 => with_unfolding_all rfl
    case s2 => (intro _; with_unfolding_all rfl)
    case s3 => (rw [List.size_toArray, hI.length, sizeLine_eq]; lia)
    intro D' ws' h' F' N' l1 hI' hC' hL'
    clear F0 N0 l1 hC' hL'
    dsimp only
    refine ⟨D', ws'.toArray, 0, _, rfl, F', N', List.mem_cons_self, hI', ?inner, ?elt, ?fin⟩
    case inner =>
      intro n t I oI C oC D oD m₂ h tk E' hmem hoC hm1 F1 N1
      clear F' N'
      walk_at "j_steps"
      (rename IsRange _ _ _ _ _ _ _ _ => hR)
      (rename News _ _ _ _ => N2)
      (rename Fr _ _ _ _ => F2)
      rw [pcnt_eq] at hR
      exact ⟨⟨_, _, _, _, _, _, rfl, rfl, F2, N2, hR⟩⟩
    case elt =>
      intro n k t t' I2 oI2 I oI C oC D oD m₂ h tk E' hmem hk hoC hm1 hm2 F1 N1
      clear F' N'
      walk_at "j_steps"
      exact ⟨⟨_, _, _, rfl, rfl, F1, N1⟩⟩
    case fin =>
      intro D h tk vs c F1 N1 l1 hIv
      obtain ⟨ps, hpsd⟩ : ∃ ps, ps = (ns.take 6).flatMap (grid pcnt pfun) := ⟨_, rfl⟩
      rw [← hpsd] at hIv hpl
      have hpl6 : ps.length ≤ 66 := by lia
      have hpb : ∀ p ∈ ps, 0 ≤ p ∧ p < 71000 := fun p hp => by rw [hpsd] at hp; exact pgrid_bounds hp
      have hpr : ∀ p ∈ ps, p.fmod 64 ∈ (ns.take 6).map resOf := fun p hp => by rw [hpsd] at hp; exact pgrid_res hp
      have hr6 : ((ns.take 6).map resOf).length ≤ 6 := by rw [List.length_map]; exact hl6
      clear hpsd hI' hpl F' N'
      dsimp only
      walk_at "j_steps"
      rename_i x d S so t1 t2 tn h2 tk2 l2 l3 l4 hP0 h3 F2 N2
      have hsb : 100 < scanBound := by decide
      have lD'd : D' < d := l2 _ (List.mem_cons_of_mem _ List.mem_cons_self)
      have lDd : D < d := l2 _ List.mem_cons_self
      have hSd : S ≠ d := Ne.symm (Nat.ne_of_lt (Nat.lt_trans l3 l4))
      (with_unfolding_all refine' For_invVF F2 ?k1 ?k2 ?_)
      case k1 => exact rfl
      case k2 => exact rfl
      walk_at "j_steps"
      (rename Fr _ _ _ _ => F3)
      (rename News _ _ _ _ => N3)
      have N4 : News _ _ _ ([(S, so), (d, bmO w t1 t2 tn S 0)] ++ [(x, instObj 145 d), (D, listOf vs.toArray c), (D', listOf ws'.toArray 0)]) := fun p hp => N3 p (by
        simp only [List.cons_append, List.nil_append, List.mem_cons, List.not_mem_nil, or_false] at hp ⊢
        rcases hp with h | h | h | h | h <;> simp [h])
      k_dflt (refine' iter_lst (la := D)
                (fun i m₁ chg => ∃ (so' : Obj) (xs : List Int) (tn' : Tok), m₁ "made" = some (.ref x) ∧ m₁ "places" = some (.ref D) ∧ m₁ "script" = some (.ref sc) ∧ chg = [(S, so'), (d, bmO w t1 t2 tn' S (topOf (ps.take i) + 1))] ∧ SetP w so' xs ∧ (∀ p, p ∈ xs ↔ p ∈ ps.take i))
                rfl F3 N4 (List.mem_cons_of_mem _ List.mem_cons_self) hIv ?hJ ?ap ?turn ?done)
      case hJ => exact ⟨so, [], _, rfl, rfl, rfl, rfl, hP0, fun p => Iff.rfl⟩
      case ap =>
        intro p hp q hq
        simp only [List.mem_cons, List.not_mem_nil, or_false] at hp hq
        have hdS : d < S := Nat.lt_trans l3 l4
        rcases hp with e | e <;> rcases hq with e2 | e2 | e2 <;> rw [e, e2] <;> dsimp only
        · exact Nat.ne_of_lt l4
        · exact Nat.ne_of_lt (Nat.lt_trans lDd hdS)
        · exact Nat.ne_of_lt (Nat.lt_trans lD'd hdS)
        · exact Ne.symm (Nat.ne_of_lt l3)
        · exact Nat.ne_of_lt lDd
        · exact Nat.ne_of_lt lD'd
      case turn =>
        rintro i p0 t0 m₃ chg h₃ tk₃ tl hget ⟨so', xs, tn', e1, e2, e3, rfl, hP3, hx3⟩ hne hT F₃ N₃
        have q1 : (fun y => if y = Str.ofString "place" then some (Value.int p0 t0) else m₃ y) "made" = some (.ref x) := e1
        have q2 : (fun y => if y = Str.ofString "place" then some (Value.int p0 t0) else m₃ y) "places" = some (.ref D) := e2
        have q3 : (fun y => if y = Str.ofString "place" then some (Value.int p0 t0) else m₃ y) "script" = some (.ref sc) := e3
        dsimp only at hT hne
        have hxt : (x, instObj 145 d) ∈ tl := hT.sub _ List.mem_cons_self
        have o1 : ∀ q ∈ tl, q.1 ≠ S := hT.off _ List.mem_cons_self
        have o2 : ∀ q ∈ tl, q.1 ≠ d := hT.off _ (List.mem_cons_of_mem _ List.mem_cons_self)
        replace F₃ := frL (bs := [("made", .ref x), ("places", .ref D), ("script", .ref sc)]) F₃ ⟨q1, q2, q3, trivial⟩
        replace N₃ : News _ _ h₃ ((S, so') :: (d, bmO w t1 t2 tn' S (topOf (ps.take i) + 1)) :: tl) := N₃
        dsimp only [ovr] at F₃
        have hroom : xs.length + 1 < scanBound := by
          have h1 := nodup_sub_len hP3.nodup (fun p hp => (hx3 p).mp hp)
          have h2 : (ps.take i).length ≤ ps.length := by rw [List.length_take]; exact Nat.min_le_right _ _
          lia
        clear e1 e2 e3 q1 q2 q3 F3 N4
        refine wp_gen fun Qg hQg => ?_
        walk_at "j_steps"
        (rename Fr _ _ _ _ => F7)
        (rename News _ _ _ _ => N7)
        (rename SetP _ _ (addTo _ _) => hP7)
        have hpre : ps.take (i + 1) = ps.take i ++ [p0] := by rw [List.take_add_one, hget]; rfl
        rw [← top_snoc, ← hpre] at N7
        refine hQg _ _ ?_
        refine Turn.mk [(S, _), (d, _)] F7 N7 (fun p hp => ?_) ⟨_, _, _, rfl, rfl, rfl, rfl, hP7, fun q => ?_⟩
        · rcases List.mem_cons.mp hp with e | hp
          · rw [e]; exact hne (S, so') List.mem_cons_self
          · rw [List.mem_singleton.mp hp]; exact hne (d, bmO w t1 t2 tn' S (topOf (ps.take i) + 1)) (List.mem_cons_of_mem _ List.mem_cons_self)
        · rw [mem_addTo, hx3, hpre]; simp
      case done =>
        rintro m₃ chg h₃ tk₃ ⟨so', xs, tn', e1, e2, e3, rfl, hP3, hx3⟩ F₃ N₃
        rw [List.take_length] at hx3 N₃
        replace F₃ := frL (bs := [("made", .ref x), ("places", .ref D), ("script", .ref sc)]) F₃ ⟨e1, e2, e3, trivial⟩
        replace N₃ : News _ _ h₃ ((S, so') :: (d, bmO w t1 t2 tn' S (topOf ps + 1)) :: (x, instObj 145 d) :: (D, listOf vs.toArray c) :: (D', listOf ws'.toArray 0) :: []) := N₃
        dsimp only [ovr] at F₃
        have hxs : ∀ p ∈ xs, 0 ≤ p ∧ p < 71000 := fun p hp => hpb p ((hx3 p).mp hp)
        have hfull : ∀ j : Nat, wordAt xs j ≠ 18446744073709551615 := fun j => not_full (fun p hp => hpr p ((hx3 p).mp hp)) hr6 j
        have hoct : octP xs = octP ps := octP_congr hx3
        have hpw : ∀ p ∈ ps, 0 ≤ p ∧ p < 4294967295 := fun p hp => by have := hpb p hp; lia
        have ht4 : (BE 4 0).length = 4 := BE_len 4 0
        have hcl : (toldP ps).length ≤ 2400 := by
          have h1 := told_len (wordsTo ps (cnt ps))
          rw [wordsTo_len] at h1
          have h2 := top_lt (ps := ps) (b := 71000) (by decide) fun p hp => (hpb p hp).2
          have h3 : cnt ps ≤ 1200 := by unfold cnt; lia
          exact Nat.le_trans h1 (by lia)
        have hcz : (octP ps).length ≤ 1048572 := by rw [oct_len]; lia
        have htd : (toldP ps).length ≤ 10000 := by lia
        clear e1 e2 e3 F3 N4
        walk_at "j_stepsT"
        rename_i r9 t9 k9 hfar h9 F9 N9
        replace N9 := news_none N9
        (try clear hIv); (try clear hpl6); (try clear hpb); (try clear hpr); (try clear hr6); (try clear hP0); (try clear hxs); (try clear hfull); (try clear hoct); (try clear hpw); (try clear ht4); (try clear hcl); (try clear hcz); (try clear htd); (try clear hP3); (try clear hx3); (try clear F₃); (try clear N₃); (try clear l1); (try clear l2); (try clear l3); (try clear l4); (try clear lD'd); (try clear lDd); (try clear hSd); (try clear hn63); (try clear hl6); (try clear F1); (try clear N1); (try clear F2); (try clear N2)
        iterate 31 (walk1; try dsimp only)
        (rename News _ _ _ _ => N10)
        (rename ∀ p, p ∈ _ ↔ p ∈ [r9] => hx10)
        rw [top_one hfar] at N10
        have hin := (hx10 r9).mpr (List.mem_singleton.mpr rfl)
        have hout : ¬ (r9 - 64) ∈ _ := fun h => by have := List.mem_singleton.mp ((hx10 (r9 - 64)).mp h); lia
        walk_at "j_steps")

end Mine
end
theorem PySem.Challenge.cw_jg0025_01_holds : PySem.Challenge.rw_jg0025_01.Holds := by
  exact Mine.law_go
