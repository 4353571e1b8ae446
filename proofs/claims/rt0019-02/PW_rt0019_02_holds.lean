import PyProof.Rows.All
import Wide.All
import OpenK.AllK
import KE.KRevIter
import Wide.FinOn
import PySem.Challenge.RW_rt0019_02
set_option Elab.async false
set_option compiler.extract_closed false
set_option bootstrap.genMatcherCode false
set_option genSizeOf false
set_option genInjectivity false
set_option linter.unusedVariables false
set_option maxRecDepth 100000
set_option maxHeartbeats 8000000
section
open PySem PySem.Calls PyProof.Rows
namespace Mine
noncomputable def stA (i : Nat) : Stmt := (PySem.Challenge.pw_rt0019_02.main.body[i]?).getD (.Pass default)
noncomputable def fdOf (s : Stmt) (df kw md : Value) (code : Addr) : FuncData := match s with
  | .FunctionDef name ps body _ _ _ scope _ _ _ => ⟨name, name, ps, .stmts body, scope, 3, [], df, kw, .none, md, none, .ref code, .none, 0⟩
  | _ => default
noncomputable def fnO (i : Nat) (df kw md : Value) (code : Addr) : Obj := ⟨.type "function", none, .func (fdOf (stA i) df kw md code), (List.toArray [])⟩
noncomputable def KK (P : Params) : PySem.W.Frag := [
  (3, ⟨(.type "dict"), none, (.dict (List.toArray [⟨(PySem.PyData.keyHash P (Str.ofString "__name__")), (.str (Str.ofString "__name__") 165), (.str (Str.ofString "law_rt0019_02") 411)⟩, ⟨(PySem.PyData.keyHash P (Str.ofString "__doc__")), (.str (Str.ofString "__doc__") 166), .none⟩, ⟨(PySem.PyData.keyHash P (Str.ofString "__package__")), (.str (Str.ofString "__package__") 167), .none⟩, ⟨(PySem.PyData.keyHash P (Str.ofString "__loader__")), (.str (Str.ofString "__loader__") 168), (.builtin "__main__.__loader__#opaque")⟩, ⟨(PySem.PyData.keyHash P (Str.ofString "__spec__")), (.str (Str.ofString "__spec__") 169), .none⟩, ⟨(PySem.PyData.keyHash P (Str.ofString "__annotations__")), (.str (Str.ofString "__annotations__") 170), (.ref 6)⟩, ⟨(PySem.PyData.keyHash P (Str.ofString "__builtins__")), (.str (Str.ofString "__builtins__") 171), (.ref 4)⟩, ⟨(PySem.PyData.keyHash P (Str.ofString "__file__")), (.str (Str.ofString "__file__") 173), (.str (Str.ofString "/claim/cut.py") 172)⟩, ⟨(PySem.PyData.keyHash P (Str.ofString "__cached__")), (.str (Str.ofString "__cached__") 174), .none⟩, ⟨(PySem.PyData.keyHash P (Str.ofString "_wall")), (.str (Str.ofString "_wall") 193), (.ref 21)⟩, ⟨(PySem.PyData.keyHash P (Str.ofString "heappush")), (.str (Str.ofString "heappush") 203), (.ref 28)⟩, ⟨(PySem.PyData.keyHash P (Str.ofString "heappop")), (.str (Str.ofString "heappop") 212), (.ref 35)⟩, ⟨(PySem.PyData.keyHash P (Str.ofString "_heapreplace_max")), (.str (Str.ofString "_heapreplace_max") 221), (.ref 42)⟩, ⟨(PySem.PyData.keyHash P (Str.ofString "_heapify_max")), (.str (Str.ofString "_heapify_max") 230), (.ref 49)⟩, ⟨(PySem.PyData.keyHash P (Str.ofString "_siftdown")), (.str (Str.ofString "_siftdown") 242), (.ref 56)⟩, ⟨(PySem.PyData.keyHash P (Str.ofString "_siftup")), (.str (Str.ofString "_siftup") 255), (.ref 63)⟩, ⟨(PySem.PyData.keyHash P (Str.ofString "_siftdown_max")), (.str (Str.ofString "_siftdown_max") 267), (.ref 70)⟩, ⟨(PySem.PyData.keyHash P (Str.ofString "_siftup_max")), (.str (Str.ofString "_siftup_max") 280), (.ref 77)⟩, ⟨(PySem.PyData.keyHash P (Str.ofString "nsmallest")), (.str (Str.ofString "nsmallest") 286), (.ref 83)⟩, ⟨(PySem.PyData.keyHash P (Str.ofString "bytes_types")), (.str (Str.ofString "bytes_types") 289), (.ref 84)⟩, ⟨(PySem.PyData.keyHash P (Str.ofString "_bytes_from_decode_data")), (.str (Str.ofString "_bytes_from_decode_data") 296), (.ref 91)⟩, ⟨(PySem.PyData.keyHash P (Str.ofString "Error")), (.str (Str.ofString "Error") 316), (.ref 101)⟩, ⟨(PySem.PyData.keyHash P (Str.ofString "_ascii_buffer")), (.str (Str.ofString "_ascii_buffer") 324), (.ref 111)⟩, ⟨(PySem.PyData.keyHash P (Str.ofString "_buffer")), (.str (Str.ofString "_buffer") 332), (.ref 118)⟩, ⟨(PySem.PyData.keyHash P (Str.ofString "_truth")), (.str (Str.ofString "_truth") 340), (.ref 125)⟩, ⟨(PySem.PyData.keyHash P (Str.ofString "_B64")), (.str (Str.ofString "_B64") 342), (.bytes (List.toArray [65, 66, 67, 68, 69, 70, 71, 72, 73, 74, 75, 76, 77, 78, 79, 80, 81, 82, 83, 84, 85, 86, 87, 88, 89, 90, 97, 98, 99, 100, 101, 102, 103, 104, 105, 106, 107, 108, 109, 110, 111, 112, 113, 114, 115, 116, 117, 118, 119, 120, 121, 122, 48, 49, 50, 51, 52, 53, 54, 55, 56, 57, 43, 47]) 341)⟩, ⟨(PySem.PyData.keyHash P (Str.ofString "_b64_value")), (.str (Str.ofString "_b64_value") 349), (.ref 132)⟩, ⟨(PySem.PyData.keyHash P (Str.ofString "a2b_base64")), (.str (Str.ofString "a2b_base64") 365), (.ref 140)⟩, ⟨(PySem.PyData.keyHash P (Str.ofString "b2a_base64")), (.str (Str.ofString "b2a_base64") 379), (.ref 148)⟩, ⟨(PySem.PyData.keyHash P (Str.ofString "b64encode")), (.str (Str.ofString "b64encode") 390), (.ref 156)⟩, ⟨(PySem.PyData.keyHash P (Str.ofString "b64decode")), (.str (Str.ofString "b64decode") 399), (.ref 164)⟩, ⟨(PySem.PyData.keyHash P (Str.ofString "_parse_varint")), (.str (Str.ofString "_parse_varint") 410), (.ref 171)⟩, ⟨(PySem.PyData.keyHash P (Str.ofString "_law_nodes")), (.str (Str.ofString "_law_nodes") 421), (.ref 178)⟩, ⟨(PySem.PyData.keyHash P (Str.ofString "_law_branch")), (.str (Str.ofString "_law_branch") 430), (.ref 185)⟩, ⟨(PySem.PyData.keyHash P (Str.ofString "_law_table")), (.str (Str.ofString "_law_table") 436), (.ref 190)⟩, ⟨(PySem.PyData.keyHash P (Str.ofString "_law_octets")), (.str (Str.ofString "_law_octets") 444), (.ref 197)⟩, ⟨(PySem.PyData.keyHash P (Str.ofString "_law_answer")), (.str (Str.ofString "_law_answer") 450), (.ref 202)⟩, ⟨(PySem.PyData.keyHash P (Str.ofString "_law_told")), (.str (Str.ofString "_law_told") 459), (.ref 209)⟩, ⟨(PySem.PyData.keyHash P (Str.ofString "_law_nearer")), (.str (Str.ofString "_law_nearer") 465), (.ref 214)⟩, ⟨(PySem.PyData.keyHash P (Str.ofString "_law_search")), (.str (Str.ofString "_law_search") 484), (.ref 221)⟩, ⟨(PySem.PyData.keyHash P (Str.ofString "_law_narrows")), (.str (Str.ofString "_law_narrows") 495), (.ref 228)⟩, ⟨(PySem.PyData.keyHash P (Str.ofString "law")), (.str (Str.ofString "law") 501), (.ref 233)⟩]) 42), (List.toArray [])⟩),
  (27, ⟨(.type "code"), none, (.fields (List.toArray [(.str (Str.ofString "heappush") 196), (.str (Str.ofString "heappush") 197), (.str (Str.ofString "/claim/cut.py") 198), (.int 5 0), (.int 2 0), (.int 0 0), (.int 0 0), (.int 3 0), (.ref 22), (.bool true), (.int 181 0), (.ref 23), .none, (.ref 24), (.ref 25), (.ref 26), (.int 201 0), (.int 5 0), (.str (Str.ofString "/claim/cut.py") 202)])), (List.toArray [])⟩),
  (28, fnO 2 .none .none (.str (Str.ofString "cpy313.heapq") 194) 27),
  (34, ⟨(.type "code"), none, (.fields (List.toArray [(.str (Str.ofString "heappop") 204), (.str (Str.ofString "heappop") 205), (.str (Str.ofString "/claim/cut.py") 206), (.int 8 0), (.int 1 0), (.int 0 0), (.int 0 0), (.int 3 0), (.ref 29), (.bool true), (.int 181 0), (.ref 30), .none, (.ref 31), (.ref 32), (.ref 33), (.int 210 0), (.int 8 0), (.str (Str.ofString "/claim/cut.py") 211)])), (List.toArray [])⟩),
  (35, fnO 3 .none .none (.str (Str.ofString "cpy313.heapq") 194) 34),
  (41, ⟨(.type "code"), none, (.fields (List.toArray [(.str (Str.ofString "_heapreplace_max") 213), (.str (Str.ofString "_heapreplace_max") 214), (.str (Str.ofString "/claim/cut.py") 215), (.int 16 0), (.int 2 0), (.int 0 0), (.int 0 0), (.int 3 0), (.ref 36), (.bool true), (.int 181 0), (.ref 37), .none, (.ref 38), (.ref 39), (.ref 40), (.int 219 0), (.int 16 0), (.str (Str.ofString "/claim/cut.py") 220)])), (List.toArray [])⟩),
  (42, fnO 4 .none .none (.str (Str.ofString "cpy313.heapq") 194) 41),
  (48, ⟨(.type "code"), none, (.fields (List.toArray [(.str (Str.ofString "_heapify_max") 222), (.str (Str.ofString "_heapify_max") 223), (.str (Str.ofString "/claim/cut.py") 224), (.int 21 0), (.int 1 0), (.int 0 0), (.int 0 0), (.int 3 0), (.ref 43), (.bool true), (.int 181 0), (.ref 44), .none, (.ref 45), (.ref 46), (.ref 47), (.int 228 0), (.int 21 0), (.str (Str.ofString "/claim/cut.py") 229)])), (List.toArray [])⟩),
  (49, fnO 5 .none .none (.str (Str.ofString "cpy313.heapq") 194) 48),
  (55, ⟨(.type "code"), none, (.fields (List.toArray [(.str (Str.ofString "_siftdown") 231), (.str (Str.ofString "_siftdown") 232), (.str (Str.ofString "/claim/cut.py") 233), (.int 25 0), (.int 3 0), (.int 0 0), (.int 0 0), (.int 3 0), (.ref 50), (.bool true), (.int 181 0), (.ref 51), .none, (.ref 52), (.ref 53), (.ref 54), (.int 240 0), (.int 25 0), (.str (Str.ofString "/claim/cut.py") 241)])), (List.toArray [])⟩),
  (56, fnO 6 .none .none (.str (Str.ofString "cpy313.heapq") 194) 55),
  (62, ⟨(.type "code"), none, (.fields (List.toArray [(.str (Str.ofString "_siftup") 243), (.str (Str.ofString "_siftup") 244), (.str (Str.ofString "/claim/cut.py") 245), (.int 36 0), (.int 2 0), (.int 0 0), (.int 0 0), (.int 3 0), (.ref 57), (.bool true), (.int 181 0), (.ref 58), .none, (.ref 59), (.ref 60), (.ref 61), (.int 253 0), (.int 36 0), (.str (Str.ofString "/claim/cut.py") 254)])), (List.toArray [])⟩),
  (63, fnO 7 .none .none (.str (Str.ofString "cpy313.heapq") 194) 62),
  (69, ⟨(.type "code"), none, (.fields (List.toArray [(.str (Str.ofString "_siftdown_max") 256), (.str (Str.ofString "_siftdown_max") 257), (.str (Str.ofString "/claim/cut.py") 258), (.int 50 0), (.int 3 0), (.int 0 0), (.int 0 0), (.int 3 0), (.ref 64), (.bool true), (.int 181 0), (.ref 65), .none, (.ref 66), (.ref 67), (.ref 68), (.int 265 0), (.int 50 0), (.str (Str.ofString "/claim/cut.py") 266)])), (List.toArray [])⟩),
  (70, fnO 8 .none .none (.str (Str.ofString "cpy313.heapq") 194) 69),
  (76, ⟨(.type "code"), none, (.fields (List.toArray [(.str (Str.ofString "_siftup_max") 268), (.str (Str.ofString "_siftup_max") 269), (.str (Str.ofString "/claim/cut.py") 270), (.int 61 0), (.int 2 0), (.int 0 0), (.int 0 0), (.int 3 0), (.ref 71), (.bool true), (.int 181 0), (.ref 72), .none, (.ref 73), (.ref 74), (.ref 75), (.int 278 0), (.int 61 0), (.str (Str.ofString "/claim/cut.py") 279)])), (List.toArray [])⟩),
  (77, fnO 9 .none .none (.str (Str.ofString "cpy313.heapq") 194) 76),
  (78, ⟨(.type "tuple"), none, (.seq (List.toArray [.none]) 0), (List.toArray [])⟩),
  (82, ⟨(.type "code"), none, (.fields (List.toArray [(.str (Str.ofString "nsmallest") 281), (.str (Str.ofString "nsmallest") 282), (.str (Str.ofString "/claim/cut.py") 283), (.int 75 0), (.int 3 0), (.int 0 0), (.int 0 0), (.int 3 0), (.ref 79), (.bool true), (.int 181 0), (.ref 80), .none, .none, .none, (.ref 81), (.int 284 0), (.int 75 0), (.str (Str.ofString "/claim/cut.py") 285)])), (List.toArray [])⟩),
  (83, fnO 10 (.ref 78) .none (.str (Str.ofString "cpy313.heapq") 194) 82),
  (84, ⟨(.type "tuple"), none, (.seq (List.toArray [(.type "bytes"), (.type "bytearray")]) 0), (List.toArray [])⟩),
  (90, ⟨(.type "code"), none, (.fields (List.toArray [(.str (Str.ofString "_bytes_from_decode_data") 290), (.str (Str.ofString "_bytes_from_decode_data") 291), (.str (Str.ofString "/claim/cut.py") 292), (.int 122 0), (.int 1 0), (.int 0 0), (.int 0 0), (.int 3 0), (.ref 85), (.bool true), (.int 181 0), (.ref 86), .none, (.ref 87), (.ref 88), (.ref 89), (.int 294 0), (.int 122 0), (.str (Str.ofString "/claim/cut.py") 295)])), (List.toArray [])⟩),
  (91, fnO 13 .none .none (.str (Str.ofString "cpy313.base64") 287) 90),
  (110, ⟨(.type "code"), none, (.fields (List.toArray [(.str (Str.ofString "_ascii_buffer") 317), (.str (Str.ofString "_ascii_buffer") 318), (.str (Str.ofString "/claim/cut.py") 319), (.int 137 0), (.int 1 0), (.int 0 0), (.int 0 0), (.int 3 0), (.ref 105), (.bool true), (.int 181 0), (.ref 106), .none, (.ref 107), (.ref 108), (.ref 109), (.int 322 0), (.int 137 0), (.str (Str.ofString "/claim/cut.py") 323)])), (List.toArray [])⟩),
  (111, fnO 16 .none .none (.str (Str.ofString "binascii") 297) 110),
  (117, ⟨(.type "code"), none, (.fields (List.toArray [(.str (Str.ofString "_buffer") 325), (.str (Str.ofString "_buffer") 326), (.str (Str.ofString "/claim/cut.py") 327), (.int 148 0), (.int 1 0), (.int 0 0), (.int 0 0), (.int 3 0), (.ref 112), (.bool true), (.int 181 0), (.ref 113), .none, (.ref 114), (.ref 115), (.ref 116), (.int 330 0), (.int 148 0), (.str (Str.ofString "/claim/cut.py") 331)])), (List.toArray [])⟩),
  (118, fnO 17 .none .none (.str (Str.ofString "binascii") 297) 117),
  (124, ⟨(.type "code"), none, (.fields (List.toArray [(.str (Str.ofString "_truth") 333), (.str (Str.ofString "_truth") 334), (.str (Str.ofString "/claim/cut.py") 335), (.int 155 0), (.int 1 0), (.int 0 0), (.int 0 0), (.int 3 0), (.ref 119), (.bool true), (.int 181 0), (.ref 120), .none, (.ref 121), (.ref 122), (.ref 123), (.int 338 0), (.int 155 0), (.str (Str.ofString "/claim/cut.py") 339)])), (List.toArray [])⟩),
  (125, fnO 18 .none .none (.str (Str.ofString "binascii") 297) 124),
  (131, ⟨(.type "code"), none, (.fields (List.toArray [(.str (Str.ofString "_b64_value") 343), (.str (Str.ofString "_b64_value") 344), (.str (Str.ofString "/claim/cut.py") 345), (.int 161 0), (.int 1 0), (.int 0 0), (.int 0 0), (.int 3 0), (.ref 126), (.bool true), (.int 181 0), (.ref 127), .none, (.ref 128), (.ref 129), (.ref 130), (.int 347 0), (.int 161 0), (.str (Str.ofString "/claim/cut.py") 348)])), (List.toArray [])⟩),
  (132, fnO 20 .none .none (.str (Str.ofString "binascii") 297) 131),
  (133, ⟨(.type "dict"), none, (.dict (List.toArray [⟨(PySem.PyData.keyHash P (Str.ofString "strict_mode")), (.str (Str.ofString "strict_mode") 350), (.bool false)⟩]) 1), (List.toArray [])⟩),
  (139, ⟨(.type "code"), none, (.fields (List.toArray [(.str (Str.ofString "a2b_base64") 351), (.str (Str.ofString "a2b_base64") 352), (.str (Str.ofString "/claim/cut.py") 353), (.int 173 0), (.int 1 0), (.int 1 0), (.int 1 0), (.int 3 0), (.ref 134), (.bool true), (.int 181 0), (.ref 135), .none, (.ref 136), (.ref 137), (.ref 138), (.int 363 0), (.int 173 0), (.str (Str.ofString "/claim/cut.py") 364)])), (List.toArray [])⟩),
  (140, fnO 21 .none (.ref 133) (.str (Str.ofString "binascii") 297) 139),
  (141, ⟨(.type "dict"), none, (.dict (List.toArray [⟨(PySem.PyData.keyHash P (Str.ofString "newline")), (.str (Str.ofString "newline") 366), (.bool true)⟩]) 1), (List.toArray [])⟩),
  (147, ⟨(.type "code"), none, (.fields (List.toArray [(.str (Str.ofString "b2a_base64") 367), (.str (Str.ofString "b2a_base64") 368), (.str (Str.ofString "/claim/cut.py") 369), (.int 227 0), (.int 1 0), (.int 1 0), (.int 1 0), (.int 3 0), (.ref 142), (.bool true), (.int 181 0), (.ref 143), .none, (.ref 144), (.ref 145), (.ref 146), (.int 377 0), (.int 227 0), (.str (Str.ofString "/claim/cut.py") 378)])), (List.toArray [])⟩),
  (148, fnO 22 .none (.ref 141) (.str (Str.ofString "binascii") 297) 147),
  (149, ⟨(.type "tuple"), none, (.seq (List.toArray [.none]) 0), (List.toArray [])⟩),
  (155, ⟨(.type "code"), none, (.fields (List.toArray [(.str (Str.ofString "b64encode") 382), (.str (Str.ofString "b64encode") 383), (.str (Str.ofString "/claim/cut.py") 384), (.int 250 0), (.int 2 0), (.int 0 0), (.int 0 0), (.int 3 0), (.ref 150), (.bool true), (.int 181 0), (.ref 151), .none, (.ref 152), (.ref 153), (.ref 154), (.int 388 0), (.int 250 0), (.str (Str.ofString "/claim/cut.py") 389)])), (List.toArray [])⟩),
  (156, fnO 24 (.ref 149) .none (.str (Str.ofString "cpy313.base64") 380) 155),
  (157, ⟨(.type "tuple"), none, (.seq (List.toArray [.none, (.bool false)]) 0), (List.toArray [])⟩),
  (163, ⟨(.type "code"), none, (.fields (List.toArray [(.str (Str.ofString "b64decode") 391), (.str (Str.ofString "b64decode") 392), (.str (Str.ofString "/claim/cut.py") 393), (.int 256 0), (.int 3 0), (.int 0 0), (.int 0 0), (.int 3 0), (.ref 158), (.bool true), (.int 181 0), (.ref 159), .none, (.ref 160), (.ref 161), (.ref 162), (.int 397 0), (.int 256 0), (.str (Str.ofString "/claim/cut.py") 398)])), (List.toArray [])⟩),
  (164, fnO 25 (.ref 157) .none (.str (Str.ofString "cpy313.base64") 380) 163),
  (170, ⟨(.type "code"), none, (.fields (List.toArray [(.str (Str.ofString "_parse_varint") 402), (.str (Str.ofString "_parse_varint") 403), (.str (Str.ofString "/claim/cut.py") 404), (.int 264 0), (.int 1 0), (.int 0 0), (.int 0 0), (.int 3 0), (.ref 165), (.bool true), (.int 181 0), (.ref 166), .none, (.ref 167), (.ref 168), (.ref 169), (.int 408 0), (.int 264 0), (.str (Str.ofString "/claim/cut.py") 409)])), (List.toArray [])⟩),
  (171, fnO 27 .none .none (.str (Str.ofString "cpy313.dis") 400) 170),
  (177, ⟨(.type "code"), none, (.fields (List.toArray [(.str (Str.ofString "_law_nodes") 413), (.str (Str.ofString "_law_nodes") 414), (.str (Str.ofString "/claim/cut.py") 415), (.int 273 0), (.int 1 0), (.int 0 0), (.int 0 0), (.int 3 0), (.ref 172), (.bool true), (.int 181 0), (.ref 173), .none, (.ref 174), (.ref 175), (.ref 176), (.int 419 0), (.int 273 0), (.str (Str.ofString "/claim/cut.py") 420)])), (List.toArray [])⟩),
  (178, fnO 29 .none .none (.str (Str.ofString "law_rt0019_02") 411) 177),
  (184, ⟨(.type "code"), none, (.fields (List.toArray [(.str (Str.ofString "_law_branch") 422), (.str (Str.ofString "_law_branch") 423), (.str (Str.ofString "/claim/cut.py") 424), (.int 279 0), (.int 3 0), (.int 0 0), (.int 0 0), (.int 3 0), (.ref 179), (.bool true), (.int 181 0), (.ref 180), .none, (.ref 181), (.ref 182), (.ref 183), (.int 428 0), (.int 279 0), (.str (Str.ofString "/claim/cut.py") 429)])), (List.toArray [])⟩),
  (185, fnO 30 .none .none (.str (Str.ofString "law_rt0019_02") 411) 184),
  (189, ⟨(.type "code"), none, (.fields (List.toArray [(.str (Str.ofString "_law_table") 431), (.str (Str.ofString "_law_table") 432), (.str (Str.ofString "/claim/cut.py") 433), (.int 281 0), (.int 4 0), (.int 0 0), (.int 0 0), (.int 3 0), (.ref 186), (.bool true), (.int 181 0), (.ref 187), .none, .none, .none, (.ref 188), (.int 434 0), (.int 281 0), (.str (Str.ofString "/claim/cut.py") 435)])), (List.toArray [])⟩),
  (190, fnO 31 .none .none (.str (Str.ofString "law_rt0019_02") 411) 189),
  (196, ⟨(.type "code"), none, (.fields (List.toArray [(.str (Str.ofString "_law_octets") 437), (.str (Str.ofString "_law_octets") 438), (.str (Str.ofString "/claim/cut.py") 439), (.int 287 0), (.int 1 0), (.int 0 0), (.int 0 0), (.int 3 0), (.ref 191), (.bool true), (.int 181 0), (.ref 192), .none, (.ref 193), (.ref 194), (.ref 195), (.int 442 0), (.int 287 0), (.str (Str.ofString "/claim/cut.py") 443)])), (List.toArray [])⟩),
  (197, fnO 32 .none .none (.str (Str.ofString "law_rt0019_02") 411) 196),
  (201, ⟨(.type "code"), none, (.fields (List.toArray [(.str (Str.ofString "_law_answer") 445), (.str (Str.ofString "_law_answer") 446), (.str (Str.ofString "/claim/cut.py") 447), (.int 293 0), (.int 3 0), (.int 0 0), (.int 0 0), (.int 3 0), (.ref 198), (.bool true), (.int 181 0), (.ref 199), .none, .none, .none, (.ref 200), (.int 448 0), (.int 293 0), (.str (Str.ofString "/claim/cut.py") 449)])), (List.toArray [])⟩),
  (202, fnO 33 .none .none (.str (Str.ofString "law_rt0019_02") 411) 201),
  (208, ⟨(.type "code"), none, (.fields (List.toArray [(.str (Str.ofString "_law_told") 451), (.str (Str.ofString "_law_told") 452), (.str (Str.ofString "/claim/cut.py") 453), (.int 296 0), (.int 1 0), (.int 0 0), (.int 0 0), (.int 3 0), (.ref 203), (.bool true), (.int 181 0), (.ref 204), .none, (.ref 205), (.ref 206), (.ref 207), (.int 457 0), (.int 296 0), (.str (Str.ofString "/claim/cut.py") 458)])), (List.toArray [])⟩),
  (209, fnO 34 .none .none (.str (Str.ofString "law_rt0019_02") 411) 208),
  (213, ⟨(.type "code"), none, (.fields (List.toArray [(.str (Str.ofString "_law_nearer") 460), (.str (Str.ofString "_law_nearer") 461), (.str (Str.ofString "/claim/cut.py") 462), (.int 304 0), (.int 3 0), (.int 0 0), (.int 0 0), (.int 3 0), (.ref 210), (.bool true), (.int 181 0), (.ref 211), .none, .none, .none, (.ref 212), (.int 463 0), (.int 304 0), (.str (Str.ofString "/claim/cut.py") 464)])), (List.toArray [])⟩),
  (214, fnO 35 .none .none (.str (Str.ofString "law_rt0019_02") 411) 213),
  (220, ⟨(.type "code"), none, (.fields (List.toArray [(.str (Str.ofString "_law_search") 466), (.str (Str.ofString "_law_search") 467), (.str (Str.ofString "/claim/cut.py") 468), (.int 306 0), (.int 5 0), (.int 0 0), (.int 0 0), (.int 3 0), (.ref 215), (.bool true), (.int 181 0), (.ref 216), .none, (.ref 217), (.ref 218), (.ref 219), (.int 482 0), (.int 306 0), (.str (Str.ofString "/claim/cut.py") 483)])), (List.toArray [])⟩),
  (221, fnO 36 .none .none (.str (Str.ofString "law_rt0019_02") 411) 220),
  (227, ⟨(.type "code"), none, (.fields (List.toArray [(.str (Str.ofString "_law_narrows") 485), (.str (Str.ofString "_law_narrows") 486), (.str (Str.ofString "/claim/cut.py") 487), (.int 317 0), (.int 2 0), (.int 0 0), (.int 0 0), (.int 3 0), (.ref 222), (.bool true), (.int 181 0), (.ref 223), .none, (.ref 224), (.ref 225), (.ref 226), (.int 493 0), (.int 317 0), (.str (Str.ofString "/claim/cut.py") 494)])), (List.toArray [])⟩),
  (228, fnO 37 .none .none (.str (Str.ofString "law_rt0019_02") 411) 227),
  (232, ⟨(.type "code"), none, (.fields (List.toArray [(.str (Str.ofString "law") 496), (.str (Str.ofString "law") 497), (.str (Str.ofString "/claim/cut.py") 498), (.int 325 0), (.int 1 0), (.int 0 0), (.int 0 0), (.int 3 0), (.ref 229), (.bool true), (.int 181 0), (.ref 230), .none, .none, .none, (.ref 231), (.int 499 0), (.int 325 0), (.str (Str.ofString "/claim/cut.py") 500)])), (List.toArray [])⟩),
  (233, fnO 38 .none .none (.str (Str.ofString "law_rt0019_02") 411) 232)]
noncomputable def KA : List Addr := [3, 27, 28, 34, 35, 41, 42, 48, 49, 55, 56, 62, 63, 69, 70, 76, 77, 78, 82, 83, 84, 90, 91, 110, 111, 117, 118, 124, 125, 131, 132, 133, 139, 140, 141, 147, 148, 149, 155, 156, 157, 163, 164, 170, 171, 177, 178, 184, 185, 189, 190, 196, 197, 201, 202, 208, 209, 213, 214, 220, 221, 227, 228, 232, 233]
noncomputable def qV : Program := PySem.W.view PySem.Challenge.pw_rt0019_02 [38]
noncomputable def looseL : List Str := [Str.ofString "_wall", Str.ofString "heappush", Str.ofString "heappop", Str.ofString "_heapreplace_max", Str.ofString "_heapify_max", Str.ofString "_siftdown", Str.ofString "_siftup", Str.ofString "_siftdown_max", Str.ofString "_siftup_max", Str.ofString "nsmallest", Str.ofString "bytes_types", Str.ofString "_bytes_from_decode_data", Str.ofString "Error", Str.ofString "_ascii_buffer", Str.ofString "_buffer", Str.ofString "_truth", Str.ofString "_B64", Str.ofString "_b64_value", Str.ofString "a2b_base64", Str.ofString "b2a_base64", Str.ofString "b64encode", Str.ofString "b64decode", Str.ofString "_parse_varint", Str.ofString "_law_nodes", Str.ofString "_law_branch", Str.ofString "_law_table", Str.ofString "_law_octets", Str.ofString "_law_answer", Str.ofString "_law_told", Str.ofString "_law_nearer", Str.ofString "_law_search", Str.ofString "_law_narrows"]
noncomputable abbrev pE : Program := PySem.Challenge.rw_rt0019_02.row.prog
noncomputable abbrev xtF : Shared → Bool := fun s => PySem.W.xlAt qV [] s && PySem.W.recOk (PySem.W.RowW.records PySem.Challenge.rw_rt0019_02.row.toRowW) s
theorem boot_q : PySem.W.opening pE = PySem.W.plainProg pE.main.scope.names := by kernel_rfl
theorem fence_q : ∀ s, fenceModules? pE s = some s := fun s => by kernel_rfl
end Mine
end
section
namespace Mine
theorem pa_le (p : Nat) : (p - 1) / 2 ≤ p := Nat.le_trans (Nat.div_le_self _ _) (Nat.sub_le _ _)
theorem pa_lt {p : Nat} (h : 0 < p) : (p - 1) / 2 < p := Nat.lt_of_le_of_lt (Nat.div_le_self _ _) (Nat.sub_lt h Nat.one_pos)
theorem pa_n {p n : Nat} (h : p < n) : (p - 1) / 2 < n := Nat.lt_of_le_of_lt (pa_le p) h
theorem pa_ci {s p : Nat} (h : (s : Int) < (p : Int)) : (p - 1) / 2 < p := pa_lt (Nat.lt_of_le_of_lt (Nat.zero_le s) (Int.ofNat_lt.mp h))
theorem pa_sp {s p : Nat} (h : s < p) : (p - 1) / 2 < p := pa_lt (Nat.lt_of_le_of_lt (Nat.zero_le s) h)
theorem pa_nz {p : Nat} (h : ¬ p = 0) : (p - 1) / 2 < p := pa_lt (Nat.pos_of_ne_zero h)
theorem pa_m {p n m : Nat} (h : p < n) (e : n = m) (k : m < 100000) : (p - 1) / 2 < 100000 := pa_n (Nat.lt_trans h (e ▸ k))
theorem pa_s {i n : Nat} (h : 0 < i) (k : i < n + 1) : (i - 1) / 2 < n := Nat.lt_of_lt_of_le (pa_lt h) (Nat.le_of_lt_succ k)
theorem pa_ns {i n : Nat} (h : 0 < i) (k : i < n + 1) (e : (i - 1) / 2 = n) : False := Nat.ne_of_lt (pa_s h k) e
theorem pa_irr {i : Nat} (h : 0 < i) (e : (i - 1) / 2 = i) : False := Nat.ne_of_lt (pa_lt h) e
theorem pa_irs {s i : Nat} (h : s < i) (e : (i - 1) / 2 = i) : False := Nat.ne_of_lt (pa_sp h) e
theorem pa_ir2 {i q : Nat} (h : 0 < q) (e : (i - 1) / 2 = q) (f : i = q) : False := pa_irr (i := i) (f ▸ h) (e.trans f.symm)
theorem pa_pa {p : Nat} (h : 0 < (p - 1) / 2) (e : ((p - 1) / 2 - 1) / 2 = p) : False := by
  have z := pa_lt h
  rw [e] at z
  exact Nat.lt_irrefl p (Nat.lt_of_lt_of_le z (pa_le p))
theorem pa_kid {i p : Nat} (h : 0 < i) (e : (i - 1) / 2 = p) : i = 2 * p + 1 ∨ i = 2 * p + 2 := by
  have z := Nat.div_add_mod (i - 1) 2
  rw [e] at z
  have hi : i - 1 + 1 = i := Nat.sub_add_cancel h
  rcases Nat.mod_two_eq_zero_or_one (i - 1) with r | r
  · left; rw [r] at z; rw [← hi, ← z]
  · right; rw [r] at z; rw [← hi, ← z]
theorem kidL (p : Nat) : (2 * p + 1 - 1) / 2 = p := by rw [Nat.add_sub_cancel, Nat.mul_div_cancel_left _ (by decide)]
theorem kidR (p : Nat) : (2 * p + 1 + 1 - 1) / 2 = p := by rw [Nat.add_sub_cancel, Nat.mul_add_div (by decide)]; rfl
theorem kidLo (p : Nat) : (2 * p + 1 - 1) / 2 = p ∧ (2 * p + 1 = 2 * p + 1 ∨ 2 * p + 1 = 2 * p + 2) := ⟨kidL p, .inl rfl⟩
theorem kidRo (p : Nat) : (2 * p + 1 + 1 - 1) / 2 = p ∧ (2 * p + 1 + 1 = 2 * p + 1 ∨ 2 * p + 1 + 1 = 2 * p + 2) := ⟨kidR p, .inr rfl⟩
theorem two_no {p c : Nat} (h : 2 * p + 1 ≤ c) : p < c := Nat.lt_of_lt_of_le (Nat.lt_succ_of_le (Nat.le_mul_of_pos_left p (by decide))) h
theorem kid_no1 {p c i : Nat} (h : 2 * p + 1 ≤ c) (k : 0 < i) (e : (i - 1) / 2 = c) (f : i = p) : False := by
  subst f
  exact Nat.lt_irrefl _ (Nat.lt_trans (two_no h) (e ▸ pa_lt k))
theorem kid_no2 {p c i : Nat} (h : 2 * p + 1 ≤ c) (e : (i - 1) / 2 = c) (f : (i - 1) / 2 = p) : False := Nat.lt_irrefl p (Nat.lt_of_lt_of_eq (two_no h) (e.symm.trans f))
theorem kid_big {i p n : Nat} (h : ¬ 2 * p + 1 < n) (h1 : 0 < i) (h2 : i < n) (e : (i - 1) / 2 = p) : False := by
  rcases pa_kid h1 e with q | q
  · exact h (q ▸ h2)
  · exact h (Nat.lt_trans (Nat.lt_succ_self (2 * p + 1)) (by rw [q] at h2; exact h2))
theorem kid_pos {p c : Nat} (h : 2 * p + 1 ≤ c) : 0 < c := Nat.lt_of_lt_of_le (Nat.zero_lt_succ _) h
theorem sub_c {n c p m : Nat} (h : 2 * p + 1 ≤ c) (h2 : c < m) (e : m = n) : n - c < n - p := by
  subst e; exact Nat.sub_lt_sub_left (Nat.lt_trans (two_no h) h2) (two_no h)
theorem sz1 {p c n m : Nat} (h : 2 * p + 1 ≤ c) (h1 : c < n) (e : n = m) (h2 : m < 40000) : 2 * p + 1 < 100000 := Nat.lt_of_le_of_lt h (Nat.lt_trans h1 (e ▸ Nat.lt_trans h2 (by decide)))
theorem sz2 {p c n m : Nat} (h : 2 * p + 1 ≤ c) (h1 : c < n) (e : n = m) (h2 : m < 40000) : 2 * p + 1 + 1 < 100000 := Nat.lt_of_le_of_lt (Nat.succ_le_succ h) (Nat.lt_of_le_of_lt (Nat.succ_le_of_lt h1) (e ▸ Nat.lt_trans h2 (by decide)))
theorem sz3 {c n m : Nat} (h1 : c < n) (e : n = m) (h2 : m < 40000) : c < 100000 := Nat.lt_trans h1 (e ▸ Nat.lt_trans h2 (by decide))
theorem ci1 {p n m : Nat} (e : n = m) (h : 2 * (p : Int) + 1 < (m : Int)) : 2 * p + 1 < n := e ▸ Int.ofNat_lt.mp h
theorem ci2 {p n m : Nat} (e : n = m) (h : ¬ 2 * (p : Int) + 1 < (m : Int)) (k : 2 * p + 1 < n) : False := h (Int.ofNat_lt.mpr (e ▸ k))
theorem ci3 {p n m : Nat} (e : n = m) (h : ((2 * p + 1 + 1 : Nat) : Int) < (m : Int)) : 2 * p + 1 + 1 < n := e ▸ Int.ofNat_lt.mp h
theorem ci4 {p n m : Nat} {C : Prop} (e : n = m) (h : ¬ ((2 * p + 1 + 1 : Nat) : Int) < (m : Int)) (k : 2 * p + 1 + 1 < n ∧ C) : False := h (Int.ofNat_lt.mpr (e ▸ k.1))
theorem ci5 (p : Nat) : 2 * (p : Int) + 1 = ((2 * p + 1 : Nat) : Int) := rfl
theorem ci6 (p : Nat) : ((p : Nat) : Int) + 1 = ((p + 1 : Nat) : Int) := rfl
theorem ns1 {i n : Nat} (h : i < n) : n + 1 - (i + 1) < n + 1 - i := by rw [Nat.add_sub_add_right, Nat.succ_sub (Nat.le_of_lt h)]; exact Nat.lt_succ_self _
theorem ns2 {i n r : Nat} (h : n - i = r + 1) : n - (i + 1) = r := by rw [← Nat.sub_sub, h]; rfl
theorem ns2b {i n r : Nat} (h : n - i = r + 1) : i < n := Nat.lt_of_sub_pos (h ▸ Nat.succ_pos r)
theorem ns2c {i n : Nat} (h : n - i = 0) (k : i ≤ n) : i = n := Nat.le_antisymm k (Nat.le_of_sub_eq_zero h)
theorem ns3 {k n : Nat} (h : k < n) : n - (k + 1) < n - k := Nat.sub_lt_sub_left h (Nat.lt_succ_self _)
theorem ns4 {j n : Nat} (h : j ≥ n) : ((j + 1 - n : Nat) : Int) = ((j - n : Nat) : Int) + 1 := by rw [Nat.succ_sub h]; rfl
theorem ns5 {a : Nat} (h : a ≤ 8) : 9 - (a + 1) < 9 - a := ns3 (Nat.lt_succ_of_le h)
theorem ns6 {i j n : Nat} (h : i < n) (e : j = i) : ((j - n : Nat) : Int) = 0 := by rw [e, Nat.sub_eq_zero_of_le (Nat.le_of_lt h)]; rfl
theorem ns7 {i j n : Nat} (h : i < n) (e : j = i) : ((j + 1 - n : Nat) : Int) = 0 := by rw [e, Nat.sub_eq_zero_of_le h]; rfl
theorem ns8 {i j m : Nat} (h : i < j) (k : j < m) : m - 1 - j < m - 1 - i := Nat.sub_lt_sub_left (Nat.lt_of_lt_of_le h (Nat.le_sub_one_of_lt k)) h
theorem ns8b {i j m : Nat} (h : i < j) (k : j < m) : m - 1 - i < m := Nat.lt_of_le_of_lt (Nat.sub_le _ _) (Nat.sub_lt (Nat.lt_of_le_of_lt (Nat.zero_le _) k) Nat.one_pos)
theorem ns9 {i j : Nat} (h : i < j) (k : ¬ i = j - 1) : i < j - 1 := Nat.lt_of_le_of_ne (Nat.le_sub_one_of_lt h) k
theorem ns10 {i j k : Nat} (h : i < j) (q : j < k + 1) : j - 1 < k := Nat.lt_of_lt_of_le (Nat.sub_lt (Nat.lt_of_le_of_lt (Nat.zero_le _) h) Nat.one_pos) (Nat.le_of_lt_succ q)
theorem ns11 (k m : Nat) : 0 + m - 1 - k = m - 1 - k := by rw [Nat.zero_add]
theorem ns12 {m k : Nat} (h : m ≤ k) : k - (k - m) = m := Nat.sub_sub_self h
theorem ns13 {i j m k : Nat} (h : i < j) (q : m < i ∧ i ≤ k) : i - 1 < j - 1 := Nat.sub_lt_sub_right (Nat.lt_of_le_of_lt (Nat.zero_le _) q.1) h
theorem ns14 {j : Nat} (h : 1 ≤ j) : j - 1 < j := Nat.sub_lt h Nat.one_pos
theorem ns15 {j : Nat} (h : j > 1) : 0 < j - 1 := Nat.sub_pos_of_lt h
theorem ns16 {m n : Nat} (h : m ≤ n) : m + (n - m) ≤ n := Nat.le_of_eq (Nat.add_sub_cancel' h)
theorem ns16b {m n : Nat} (h : m < n) : m + (n - m) = n := Nat.add_sub_cancel' (Nat.le_of_lt h)
theorem ns17 {n v : Nat} (e : v = n + 1) : v - 1 < v := by rw [e]; exact Nat.lt_succ_self _
theorem ns18 {l i : Nat} (h : i ≤ l) {j : Nat} (k : j ≤ l) (e : l - i = l - j) : i = j := by rw [← Nat.sub_sub_self h, e, Nat.sub_sub_self k]
theorem ns19 {i j m : Nat} (e : i = m) (h : i < j) : m ≤ j - 1 := e ▸ Nat.le_sub_one_of_lt h
theorem ns22 {i j k m : Nat} (h : i < j) (e : j = m) (q : m < i ∧ i ≤ k) : False := Nat.lt_asymm h (e ▸ q.1)
theorem ns23 {i j m : Nat} (h : i < j) (e : i = m) (f : j = m) : False := Nat.ne_of_lt h (e.trans f.symm)
theorem ns24 {j k m : Nat} (q : j < k + 1) (h : ¬ j = m) (n : ¬ (m < j ∧ j ≤ k)) (mk : m ≤ k) : j < k := by
  rcases Nat.lt_or_ge m j with z | z
  · exact absurd ⟨z, Nat.le_of_lt_succ q⟩ n
  · exact Nat.lt_of_lt_of_le (Nat.lt_of_le_of_ne z h) mk
theorem ns25 {i j k m : Nat} (h : i < j) (n : ¬ i = m) (q : ¬ (m < i ∧ i ≤ k)) (r : m < j ∧ j ≤ k) (e : i = j - 1) : False := by
  have z : m ≤ i := e ▸ Nat.le_sub_one_of_lt r.1
  exact q ⟨Nat.lt_of_le_of_ne z (Ne.symm n), Nat.le_trans (Nat.le_of_lt h) r.2⟩
theorem md1 {l r : Nat} (h : ¬ l ≥ r) : l ≤ (l + r) / 2 := (Nat.le_div_iff_mul_le (by decide)).mpr (by rw [Nat.mul_two]; exact Nat.add_le_add_left (Nat.le_of_lt (Nat.lt_of_not_le h)) l)
theorem md2 {l r : Nat} (h : ¬ l ≥ r) : (l + r) / 2 < r := (Nat.div_lt_iff_lt_mul (by decide)).mpr (by rw [Nat.mul_two]; exact Nat.add_lt_add_right (Nat.lt_of_not_le h) r)
theorem md3 {l r : Nat} (h : ¬ l ≥ r) : (l + r) / 2 + 1 ≤ r := md2 h
theorem md4 {l r k : Nat} (h : ¬ l ≥ r) (q : r ≤ k) : (l + r) / 2 < k := Nat.lt_of_lt_of_le (md2 h) q
theorem md5 {l r k : Nat} (h : ¬ l ≥ r) (q : r ≤ k) : (l + r) / 2 ≤ k := Nat.le_of_lt (md4 h q)
theorem md6 {l r k n : Nat} (h : ¬ l ≥ r) (q : r ≤ k) (z : k < n) : (l + r) / 2 < n := Nat.lt_trans (md4 h q) z
theorem md7 {l r k : Nat} (h : ¬ l ≥ r) (q : r ≤ k) (e : k = (l + r) / 2) : False := Nat.ne_of_gt (md4 h q) e
theorem md8 {l r c : Nat} (h : ¬ l ≥ r) (q : r - l ≤ c + 1) : (l + r) / 2 - l ≤ c := Nat.le_of_lt_succ (Nat.lt_of_lt_of_le (Nat.sub_lt_sub_right (md1 h) (md2 h)) q)
theorem md9 {l r c : Nat} (h : ¬ l ≥ r) (q : r - l ≤ c + 1) : r - ((l + r) / 2 + 1) ≤ c := Nat.le_of_lt_succ (Nat.lt_of_lt_of_le (Nat.sub_lt_sub_left (Nat.lt_of_not_le h) (Nat.lt_succ_of_le (md1 h))) q)
theorem md10 {l r : Nat} (h : r - l ≤ 0) (k : l ≤ r) : l = r := Nat.le_antisymm k (Nat.le_of_sub_eq_zero (Nat.le_zero.mp h))
theorem ix1 {x y : Int} (h : ¬ x < y) (k : x ≠ y) : y < x := Int.lt_iff_le_and_ne.mpr ⟨Int.not_lt.mp h, Ne.symm k⟩
theorem ix2 {x : Int} (h : 0 ≤ x) : x = (x.toNat : Int) := (Int.toNat_of_nonneg h).symm
theorem ix3 {x : Int} {k : Nat} (h : 0 ≤ x) (q : x < (k : Int)) : x.toNat < k := by have := Int.toNat_of_nonneg h; exact Int.ofNat_lt.mp (this.symm ▸ q)
theorem ix4 {p : Nat} (h : 0 < p) : (p : Int) - 1 = ((p - 1 : Nat) : Int) := (Int.ofNat_sub h).symm
theorem ix6 {n k : Nat} : (n : Int) - (k : Int) - 1 = (n : Int) - ((k + 1 : Nat) : Int) := Int.sub_sub _ _ _
theorem lt3 : ∀ k < 3, k = 0 ∨ k = 1 ∨ k = 2 := by decide
theorem t3 (n : Nat) : n % 3 = 0 ∨ n % 3 = 1 ∨ n % 3 = 2 := lt3 _ (Nat.mod_lt n (by decide))
theorem lt4 : ∀ q < 4, q = 0 ∨ q = 1 ∨ q = 2 ∨ q = 3 := by decide
theorem q3 {q : Nat} (h : q < 4) (h0 : (q : Int) ≠ 0) (h1 : (q : Int) ≠ 1) (h2 : (q : Int) ≠ 2) : q = 3 := by
  rcases lt4 q h with rfl | rfl | rfl | rfl
  · exact absurd rfl h0
  · exact absurd rfl h1
  · exact absurd rfl h2
  · rfl
theorem ab1 {k d : Nat} (hk : k < 3) (h : d < (3 - k) % 3) : k = 1 ∨ k = 2 := by
  rcases lt3 k hk with rfl | rfl | rfl
  · exact absurd h (Nat.not_lt_zero _)
  · exact .inl rfl
  · exact .inr rfl
theorem ab1' {n d L : Nat} (h : d - L < (3 - n % 3) % 3) : n % 3 = 1 ∨ n % 3 = 2 := ab1 (Nat.mod_lt n (by decide)) h
theorem ab2 {k : Nat} (h : k = 1 ∨ k = 2) (q : k = 0) : False := by rcases h with h | h <;> rw [q] at h <;> cases h
theorem ab3 {k : Nat} (h : k = 1 ∨ k = 2) : 2 ≤ ((k + 1 : Nat) : Int) := by rcases h with rfl | rfl <;> decide
theorem ab4 {k d : Nat} (h : d < (3 - k) % 3) (hk : k = 1 ∨ k = 2) : ((k + 1 : Nat) : Int) + ((d : Int) + 1) ≤ 4 := by
  rcases hk with rfl | rfl
  · exact Int.ofNat_le.mpr (Nat.add_le_add_left (Nat.succ_le_of_lt h) 2)
  · exact Int.ofNat_le.mpr (Nat.add_le_add_left (Nat.succ_le_of_lt h) 3)
theorem ab5 {n i L : Nat} (h : L + (3 - n % 3) % 3 ≤ i) (k : ¬ n % 3 = 0) (q : ((n % 3 + 1 : Nat) : Int) + ((i - L : Nat) : Int) < 4) : False := by
  have z : (3 - n % 3) % 3 ≤ i - L := Nat.le_sub_of_add_le (Nat.add_comm L _ ▸ h)
  have q : n % 3 + 1 + (i - L) < 4 := Int.ofNat_lt.mp q
  rcases t3 n with e | e | e
  · exact k e
  · rw [e] at z q; exact Nat.lt_irrefl _ (Nat.lt_of_lt_of_le q (Nat.add_le_add_left z 2))
  · rw [e] at z q; exact Nat.lt_irrefl _ (Nat.lt_of_lt_of_le q (Nat.add_le_add_left z 3))
theorem ab6 {k : Nat} (h : ¬ k = 0) (q : ((k + 1 : Nat) : Int) = 1) : False := h (Nat.succ.inj (Int.ofNat.inj q))
theorem dv1 {v : Nat} (h : v < 64) : v / 2 ^ 4 < 2 ^ 2 := Nat.div_lt_of_lt_mul h
theorem dv2 {v : Nat} (h : v < 64) : v / 2 ^ 2 < 2 ^ 4 := Nat.div_lt_of_lt_mul h
theorem dv3 {k : Nat} (h : (63 : Int) < (k : Int)) : k / 64 < k := Nat.div_lt_self (Nat.lt_trans (by decide) (Int.ofNat_lt.mp h)) (by decide)
theorem dv4 {k : Nat} (h : 63 < k) : k / 64 < k := Nat.div_lt_self (Nat.lt_trans (by decide) h) (by decide)
theorem dv5 {n : Nat} (h : n < 2 ^ 40) : n / 64 < 2 ^ 40 := Nat.lt_of_le_of_lt (Nat.div_le_self _ _) h
theorem dv6 {n : Nat} (h : n < 262144) : n / 64 < 4096 := Nat.div_lt_of_lt_mul h
theorem dv7 {m : Nat} (h : m < 4096) (k : 63 < m / 64) : False := Nat.lt_irrefl _ (Nat.lt_of_lt_of_le (Nat.div_lt_of_lt_mul h) k)
theorem dv8 (m : Nat) : m / 64 * 64 + (m % 64 + 64) % 64 = m := by rw [Nat.add_mod_right, Nat.mod_mod, Nat.mul_comm]; exact Nat.div_add_mod m 64
theorem dv9 (n : Nat) : n / 64 * 64 + n % 64 % 64 = n := by rw [Nat.mod_mod, Nat.mul_comm]; exact Nat.div_add_mod n 64
theorem dv10 {n : Nat} (h : ¬ 63 < n) : 0 * 64 + n % 64 % 64 = n := by rw [Nat.zero_mul, Nat.zero_add, Nat.mod_mod, Nat.mod_eq_of_lt (Nat.lt_succ_of_le (Nat.le_of_not_lt h))]
theorem dv11 {m : Nat} (h : ¬ 63 < m) : 0 * 64 + (m % 64 + 64) % 64 = m := by rw [Nat.add_mod_right]; exact dv10 h
theorem dv12 {n : Nat} (h : 64 ≤ n % 64) : False := Nat.lt_irrefl _ (Nat.lt_of_lt_of_le (Nat.mod_lt n (by decide)) h)
theorem dv13 {x m : Nat} (e : x = m % 64 + 64) : x < 128 := e ▸ Nat.add_lt_add_right (Nat.mod_lt m (by decide)) 64
theorem dv14 {x n : Nat} (e : x = n % 64) : x < 128 := e ▸ Nat.lt_trans (Nat.mod_lt n (by decide)) (by decide)
theorem dv15 (v : Nat) : v % 16 < 64 := Nat.lt_trans (Nat.mod_lt v (by decide)) (by decide)
theorem dv16 (v : Nat) : v % 4 < 64 := Nat.lt_trans (Nat.mod_lt v (by decide)) (by decide)
theorem dv17 (c : Nat) : c % 2 ^ 4 * 2 ^ 2 < 64 := Nat.lt_of_le_of_lt (Nat.mul_le_mul_right 4 (Nat.le_of_lt_succ (Nat.mod_lt c (by decide)))) (by decide)
theorem dv18 (c : Nat) : c % 2 ^ 2 * 2 ^ 4 < 64 := Nat.lt_of_le_of_lt (Nat.mul_le_mul_right 16 (Nat.le_of_lt_succ (Nat.mod_lt c (by decide)))) (by decide)
theorem dv19 (c : Nat) : c % 2 ^ 4 < 2 ^ 64 := Nat.lt_trans (Nat.mod_lt c (by decide)) (by decide)
theorem dv20 (c : Nat) : c % 2 ^ 2 < 2 ^ 64 := Nat.lt_trans (Nat.mod_lt c (by decide)) (by decide)
theorem sx1 {a : Nat} (h : a < 256) : a / 4 < 64 := Nat.div_lt_of_lt_mul h
theorem sx2 (a : Nat) {b : Nat} (h : b < 256) : a % 4 * 16 + b / 16 < 64 := Nat.lt_of_lt_of_le (Nat.add_lt_add_of_le_of_lt (Nat.mul_le_mul_right 16 (Nat.le_of_lt_succ (Nat.mod_lt a (by decide)))) (Nat.div_lt_of_lt_mul h)) (by decide : 3 * 16 + 16 ≤ 64)
theorem sx3 (b : Nat) {c : Nat} (h : c < 256) : b % 16 * 4 + c / 64 < 64 := Nat.lt_of_lt_of_le (Nat.add_lt_add_of_le_of_lt (Nat.mul_le_mul_right 4 (Nat.le_of_lt_succ (Nat.mod_lt b (by decide)))) (Nat.div_lt_of_lt_mul h)) (by decide : 15 * 4 + 4 ≤ 64)
theorem un1 {u n : Nat} (h : u + 20 * (n + 1) < 9000) : u + 3 + 20 * n < 9000 := Nat.lt_of_le_of_lt (by rw [Nat.mul_succ, Nat.add_comm (20 * n), ← Nat.add_assoc]; exact Nat.add_le_add_right (Nat.add_le_add_left (by decide) u) _) h
theorem un2 {u n : Nat} (h : u + 20 * (n + 1) < 9000) : u + 1 + 20 * n < 9000 := Nat.lt_of_le_of_lt (Nat.add_le_add_right (Nat.add_le_add_left (by decide) u) _) (un1 h)
theorem un3 {u n : Nat} (h : u + (n + 1) < 900) : u + 1 + n < 900 := by rw [Nat.add_assoc, Nat.add_comm 1]; exact h
theorem un4 {u n : Nat} (h : u + (n + 1) < 900) : u + n < 900 := Nat.lt_of_succ_lt h
theorem un5 {u n : Nat} (h : u + (n + 1) < 900) : u < 1000 := Nat.lt_of_le_of_lt (Nat.le_add_right u _) (Nat.lt_trans h (by decide))
theorem un6 {u n : Nat} (h : u + 20 * n < 9000) : u + 64 < 9900 := Nat.lt_of_le_of_lt (Nat.add_le_add_right (Nat.le_add_right u _) 64) (Nat.lt_trans (Nat.add_lt_add_right h 64) (by decide))
theorem ad1 {k c n : Nat} (h : k + (c + 1) = n) : k + 1 + c = n := by rw [← h, Nat.add_assoc, Nat.add_comm 1]
theorem ad2 {k c n : Nat} (h : k + (c + 1) ≤ n) : k + 1 + c ≤ n := by rw [Nat.add_assoc, Nat.add_comm 1]; exact h
theorem ad3 {k c m : Nat} (h : m ≤ k + 1 + c) : m ≤ k + (c + 1) := by rw [Nat.add_assoc, Nat.add_comm 1] at h; exact h
theorem ad4 {k c m : Nat} (h : m < k + (c + 1)) : m < k + 1 + c := by rw [Nat.add_assoc, Nat.add_comm 1]; exact h
theorem ad5 {k c n : Nat} (h : k + (c + 1) ≤ n) : k < n := Nat.lt_of_lt_of_le (Nat.lt_add_of_pos_right (Nat.succ_pos c)) h
theorem ad6 {k c n : Nat} (h : k + (c + 1) = n) : k < n := ad5 (Nat.le_of_eq h)
theorem ad7 {k c n : Nat} (h : k + (c + 1) ≤ n) : k - 1 < n := Nat.lt_of_le_of_lt (Nat.sub_le _ _) (ad5 h)
theorem ad8 {k c n m : Nat} (e : m = n) (h : k + (c + 1) = n) : k < m := e ▸ ad6 h
theorem ad9 {k : Nat} (h : 1 ≤ k) (e : k = k - 1) : False := Nat.ne_of_gt (ns14 h) e
theorem mi1 {i n m : Nat} (h : n ≤ m) : min i n ≤ m := Nat.le_trans (Nat.min_le_right _ _) h
theorem mi2 {i n : Nat} (h : n ≤ 100) : min i n < 100000 := Nat.lt_of_le_of_lt (mi1 h) (by decide)
theorem mi3 {n k : Nat} (h : n ≤ k) : n = min n k := (Nat.min_eq_left h).symm
theorem mi4 {i n w : Nat} (e : w = min i n) : w ≤ n := e ▸ Nat.min_le_right _ _
theorem mi5 {n k m : Nat} (e : n = min k m) (h : k ≤ m) : n = k := e.trans (Nat.min_eq_left h)
theorem mi6 (n : Nat) : min 2 n + (2 - min 2 n) = 2 := Nat.add_sub_cancel' (Nat.min_le_left _ _)
theorem mi7 (n : Nat) : min 2 n + (2 - min 2 n) ≤ 100000 := Nat.le_trans (Nat.le_of_eq (mi6 n)) (by decide)
theorem mi8 (n : Nat) : 2 - ((min 2 n : Nat) : Int) = ((2 - min 2 n : Nat) : Int) := (Int.ofNat_sub (Nat.min_le_left _ _)).symm
theorem mi9 (n : Nat) : min 2 n ≤ 100000 := Nat.le_trans (Nat.min_le_left _ _) (by decide)
theorem mi10 {n t : Nat} (h : n ≤ 1000) : n - t + min t n ≤ 2000 := Nat.add_le_add (Nat.le_trans (Nat.sub_le _ _) h) (Nat.le_trans (Nat.min_le_right _ _) h)
theorem mi11 {n t : Nat} (h : n ≤ 1000) : n - t + min t n ≤ 100000 := Nat.le_trans (mi10 h) (by decide)
theorem mi12 {a f k n : Nat} (h : a < min (f + k) n) : a < f + k := Nat.lt_of_lt_of_le h (Nat.min_le_left _ _)
theorem mi13 {a f n : Nat} (h : a < min f n) : a < n := Nat.lt_of_lt_of_le h (Nat.min_le_right _ _)
theorem mi14 {o i L n : Nat} (h : o ≤ min i L) (k : i < L) (q : L ≤ 2 * n + 4) (r : n ≤ 20000) : o < 100000 := Nat.lt_of_le_of_lt (Nat.le_trans h (Nat.le_trans (Nat.min_le_right _ _) (Nat.le_trans q (Nat.add_le_add_right (Nat.mul_le_mul_left 2 r) 4)))) (by decide)
theorem tw1 {n : Nat} (h : n ≤ 1000) : 2 * n + 4 ≤ 100000 := Nat.le_trans (Nat.add_le_add_right (Nat.mul_le_mul_left 2 h) 4) (by decide)
theorem tw2 {n o : Nat} (h : n ≤ 1000) (k : o ≤ 14 * n) : o + 2 < 100000 := Nat.lt_of_le_of_lt (Nat.add_le_add_right (Nat.le_trans k (Nat.mul_le_mul_left 14 h)) 2) (by decide)
theorem tw3 {n o : Nat} (h : n ≤ 1000) (k : o ≤ 14 * n) : o + 1 < 100000 := Nat.lt_of_succ_lt (tw2 h k)
theorem tw4 {n o : Nat} (h : n ≤ 1000) (k : o ≤ 14 * n) : o < 100000 := Nat.lt_of_succ_lt (tw3 h k)
theorem tw6 {f R k : Nat} (h : f ≤ 3 * R) (q : R ≤ k) : f ≤ 3 * k := Nat.le_trans h (Nat.mul_le_mul_left 3 q)
theorem hl1 {n : Nat} (h : 2 ≤ n) (k : n ≤ 3) : n / 2 = 1 := by
  rcases Nat.lt_or_eq_of_le k with z | z
  · rw [Nat.le_antisymm (Nat.le_of_lt_succ z) h]
  · rw [z]
theorem hl2 {n i : Nat} (k : n ≤ 3) (h1 : 0 < i) (h2 : i < n) (q : (i - 1) / 2 ≠ 0) : False := q (Nat.div_eq_of_lt (Nat.lt_of_lt_of_le (Nat.sub_lt h1 Nat.one_pos) (Nat.le_of_lt_succ (Nat.lt_of_lt_of_le h2 k))))
theorem cs1 {i : Nat} {k : Nat} (h : i < ((k : Int) - 0).toNat) : i < k := by rw [Int.sub_zero, Int.toNat_natCast] at h; exact h
theorem cs2 {i : Nat} {k : Nat} (h : ¬ i < ((k : Int) - 0).toNat) : k ≤ i := by rw [Int.sub_zero, Int.toNat_natCast] at h; exact Nat.le_of_not_lt h
theorem cs3 {k : Nat} : ((k : Int) - 0).toNat = k := by rw [Int.sub_zero, Int.toNat_natCast]
theorem cs4 {n : Nat} (h : n < 1000) : -1000000 < (0 : Int) ∧ (0 : Int) < 1000000 ∧ -1000000 < (n : Int) ∧ (n : Int) < 1000000 := ⟨by decide, by decide, Int.lt_of_lt_of_le (by decide) (Int.natCast_nonneg n), Int.ofNat_lt.mpr (Nat.lt_trans h (by decide))⟩
theorem cs5 {n : Nat} (h : n ≤ 1000) : -1000000 < (0 : Int) ∧ (0 : Int) < 1000000 ∧ -1000000 < (n : Int) ∧ (n : Int) < 1000000 := ⟨by decide, by decide, Int.lt_of_lt_of_le (by decide) (Int.natCast_nonneg n), Int.ofNat_lt.mpr (Nat.lt_of_le_of_lt h (by decide))⟩
theorem cs6 {y : Nat} (h : y < 256) : (0 : Int) ≤ (y : Int) ∧ (y : Int) < 256 := ⟨Int.natCast_nonneg y, Int.ofNat_lt.mpr h⟩
theorem fw1 {f r : Nat} (h : 2 ≤ f) (e : r = f) : 0 < r := Nat.lt_of_lt_of_le (m := 2) (by decide) (e ▸ h)
theorem fw2 {f : Nat} (h : 2 ≤ f) : 0 < f := Nat.lt_of_lt_of_le (m := 2) (by decide) h
theorem fw2b {f : Nat} (h : 2 ≤ f) (e : 0 = f) : False := Nat.ne_of_lt (fw2 h) e
theorem fw3 {f : Nat} (h : 1 ≤ f) (n : ¬ f = 1) : 2 ≤ f := Nat.lt_of_le_of_ne h (Ne.symm n)
theorem fw4 {f r : Nat} (h : f ≤ 3) (e : r = f) : r ≤ 100000 := e ▸ Nat.le_trans h (by decide)
theorem fw5 {f r y : Nat} (h : f ≤ 3) (e : r = f) (k : y = r) : y ≤ 100000 := k ▸ fw4 h e
theorem fw6 {f n y : Nat} (h : f ≤ 3) (q : n ≤ f) (e : y = n) : y ≤ 100000 := e ▸ Nat.le_trans (Nat.le_trans q h) (by decide)
theorem fw7 {f : Nat} (h : 2 ≤ f) (e : (f : Int) = 1) : False := absurd (Int.ofNat.inj e) (Nat.ne_of_gt h)
theorem e82 {n i : Nat} {C : Prop} (e : n = 8) (h : C ∧ i < 8) : i < n := e ▸ h.2
theorem e83 {i : Nat} {C : Prop} (h : C ∧ i < 8) : i < 100000 := Nat.lt_trans h.2 (by decide)
theorem e84 {n f : Nat} (e : n = 8) (h : f ≤ 3) : f ≤ n := e ▸ Nat.le_trans h (by decide)
theorem e85 {n a : Nat} (e : n = 8) (h : a ≤ n) : a - 1 < 30000 := Nat.lt_of_le_of_lt (Nat.sub_le _ _) (Nat.lt_of_le_of_lt (e ▸ h) (by decide))
theorem e88 {n a b c : Nat} (e : n = 8) (h : a ≤ n) (k : c ≤ a + b) (q : b ≤ 8) : c < 100000 := Nat.lt_of_le_of_lt (Nat.le_trans k (Nat.add_le_add (e ▸ h) q)) (by decide)
theorem e89 {n a b c p : Nat} (e : n = 8) (h : a ≤ n) (k : c ≤ p + b) (r : p + 1 = a) (q : b ≤ 8) : c < 40000 := Nat.lt_of_le_of_lt (Nat.le_trans k (Nat.add_le_add (Nat.le_trans (Nat.le_succ p) (e ▸ r ▸ h)) q)) (by decide)
theorem e810 {n : Nat} (e : n = 8) : 2 ≤ n := e ▸ (by decide)
theorem e811 {d : Nat} (e : d = 2) : 0 < d := e ▸ (by decide)
theorem e812 {d : Nat} (e : d = 2) : 1 < d := e ▸ (by decide)
theorem e813 {L f : Nat} (e : L = 8) : min f L ≤ 100000 := Nat.le_trans (Nat.min_le_right _ _) (e ▸ (by decide))
theorem z1 {i : Nat} (h : ¬ (0 : Int) < (i : Int)) : i = 0 := Nat.eq_zero_of_not_pos (mt Int.ofNat_lt.mpr h)
theorem z2 {i : Nat} (h : (0 : Int) < (i : Int)) (e : i = 0) : False := Nat.ne_of_gt (Int.ofNat_lt.mp h) e
theorem z3 {i : Nat} (h : (0 : Int) < (i : Int)) : (i : Int) - 1 = ((i - 1 : Nat) : Int) := (Int.ofNat_sub (Int.ofNat_lt.mp h)).symm
theorem z4 {i n : Nat} (h : i < n) : i - 1 < n := Nat.lt_of_le_of_lt (Nat.sub_le _ _) h
theorem z5 {i : Nat} (h : (0 : Int) < (i : Int)) : 0 < i := Int.ofNat_lt.mp h
theorem z7 {s p : Nat} (h : (s : Int) < (p : Int)) : 0 < p := Nat.lt_of_le_of_lt (Nat.zero_le s) (Int.ofNat_lt.mp h)
theorem z8 {s p : Nat} (h : ¬ (s : Int) < (p : Int)) (k : s < p) : False := h (Int.ofNat_lt.mpr k)
theorem z9 {s p : Nat} (h : ¬ (s : Int) = (p : Int)) (k : s = p) : False := h (congrArg _ k)
theorem z10 {a b : Nat} (h : (a : Int) = (b : Int)) : b ≤ a := Nat.le_of_eq (Int.ofNat.inj h).symm
theorem z11 {a b : Nat} (h : (a : Int) ≤ (b : Int)) (n : a ≠ b) : a < b := Nat.lt_of_le_of_ne (Int.ofNat_le.mp h) n
theorem b6a {l : Nat} (h : (6 : Int) ≤ (l : Int)) : 6 ≤ l := Int.ofNat_le.mp h
theorem b6a' {l : Nat} (h : ¬ (6 : Int) ≤ (l : Int)) (k : 6 ≤ l) : False := h (Int.ofNat_le.mpr k)
theorem b6b {l : Nat} (h : (6 : Int) ≤ (l : Int)) : (l : Int) - 6 = ((l - 6 : Nat) : Int) := (Int.ofNat_sub (b6a h)).symm
theorem b6c {l : Nat} (h : l < 15) : l - 6 < 15 := Nat.lt_of_le_of_lt (Nat.sub_le _ _) h
theorem b6d {l : Nat} (h : (6 : Int) ≤ (l : Int)) : l - 6 < l := Nat.sub_lt (Nat.lt_of_lt_of_le (by decide) (b6a h)) (by decide)
theorem b6e {a l : Nat} (k : a + l ≤ 14 * 1000 + 14) (h : (6 : Int) ≤ (l : Int)) : a + 1 + (l - 6) ≤ 14 * 1000 + 14 := Nat.le_trans (by rw [Nat.add_assoc, Nat.add_comm 1]; exact Nat.add_le_add_left (b6d h) a) k
theorem b6f {a l : Nat} (k : a + l ≤ 14 * 1000 + 14) : a < 100000 := Nat.lt_of_le_of_lt (Nat.le_trans (Nat.le_add_right a l) k) (by decide)
theorem b6g {l : Nat} (h : l < 6) : l + 8 < 15 := Nat.lt_of_lt_of_le (Nat.add_lt_add_right h 8) (by decide)
theorem b6h {o t l : Nat} (h : o ≤ 0 + 14 * t) (k : l < 6) (q : t ≤ 1000) : o + (l + 8) ≤ 14 * 1000 + 14 := Nat.add_le_add (Nat.le_trans h (by rw [Nat.zero_add]; exact Nat.mul_le_mul_left 14 q)) (Nat.le_trans (Nat.add_le_add_right (Nat.le_of_lt_succ k) 8) (by decide))
theorem br1 {x : Int} (h : -1000000 < x) : -10000000 < x := Int.lt_trans (by decide) h
theorem br2 {x : Int} (h : x < 1000000) : x < 10000000 := Int.lt_trans h (by decide)
theorem br3 {x : Int} (h : -10000000 < x) (k : x < 10000000) : -2 ^ 63 ≤ x ∧ x < 2 ^ 63 := ⟨Int.le_of_lt (Int.lt_trans (by decide) h), Int.lt_trans k (by decide)⟩
theorem br4 {x : Int} (h : -1000000 < x) : -10000000 < x + (1 - 1) := by rw [show x + (1 - 1) = x from Int.add_zero x]; exact br1 h
theorem br5 {x : Int} (h : x < 1000000) : x + (1 - 1) < 10000000 := by rw [show x + (1 - 1) = x from Int.add_zero x]; exact br2 h
theorem br6 (x : Int) : -10000000 < (x.toNat : Int) := Int.lt_of_lt_of_le (by decide) (Int.natCast_nonneg _)
theorem br7 {n : Nat} (h : n < 1000) : -1000000 < (n : Int) := Int.lt_of_lt_of_le (by decide) (Int.natCast_nonneg _)
theorem br8 {n : Nat} (h : n < 1000) : (n : Int) < 1000000 := Int.ofNat_lt.mpr (Nat.lt_trans h (by decide))
theorem br9 {n : Nat} (h : n < 1000) : (n : Int) < 10000000 := Int.ofNat_lt.mpr (Nat.lt_trans h (by decide))
theorem br10 {n : Nat} (h : n < 1000) : -10000000 < (n : Int) := Int.lt_of_lt_of_le (by decide) (Int.natCast_nonneg _)
theorem si1 {k : Int} (h : k < 100000) : k < 2 ^ 63 := Int.lt_trans h (by decide)
theorem si2 {k : Int} (h : 0 ≤ k) : -2 ^ 63 ≤ k := Int.le_trans (by decide) h
theorem si3 {k : Int} (h : 0 ≤ k) (q : k < 0) : False := Int.not_le.mpr q h
theorem si4 {k : Nat} (h : k < 100000) : (k : Int) < 100000 := Int.ofNat_lt.mpr h
theorem si5 {k : Nat} (h : k ≤ 100000) : (k : Int) < 2 ^ 63 := Int.ofNat_lt.mpr (Nat.lt_of_le_of_lt h (by decide))
theorem si6 {k : Nat} (h : k ≤ 1000) : (k : Int) ≤ 1000000 := Int.ofNat_le.mpr (Nat.le_trans h (by decide))
theorem si7 {k : Int} {n : Nat} (h : 0 ≤ k) (q : k.toNat < n) : 0 ≤ k ∧ k < (n : Int) := ⟨h, (Int.toNat_of_nonneg h) ▸ Int.ofNat_lt.mpr q⟩
theorem si8 {k : Int} {n : Nat} (q : k < (n : Int)) (h : n ≤ 100000) : k < 2 ^ 63 := Int.lt_trans q (si5 h)
theorem sm1 {i j : Nat} (h : i < j) (k : j < 1) : False := Nat.not_lt_zero i (Nat.lt_of_lt_of_le h (Nat.le_of_lt_succ k))
theorem sm2 {i j : Nat} (h : i < j) (k : j < 1 + 1) : i = 0 ∧ j = 1 := by
  have e : j = 1 := Nat.le_antisymm (Nat.le_of_lt_succ k) (Nat.lt_of_le_of_lt (Nat.zero_le i) h)
  exact ⟨Nat.lt_one_iff.mp (e ▸ h), e⟩
theorem ii1 {x y z : Int} (h : x < y) (k : y < z) : x < z := Int.lt_trans h k
theorem ii3 {x y z : Int} (h : ¬ y < x) (k : ¬ z < y) (q : z < x) : False := k (Int.lt_of_lt_of_le q (Int.not_lt.mp h))
theorem ii4 {x y : Int} (h : x < y) (k : y < x) : False := Int.lt_asymm h k
theorem ii5 {x y : Int} (h : ¬ y < x) : x = min x y := (Int.min_eq_left (Int.not_lt.mp h)).symm
theorem ii6 {x y : Int} (h : y < x) : y = min x y := (Int.min_eq_right (Int.le_of_lt h)).symm
theorem ii7 {x y z : Int} (h : ¬ y < x) (a : ¬ z = y) (k : ¬ z < y) (e : z = x) : False := k (Int.lt_iff_le_and_ne.mpr ⟨e ▸ Int.not_lt.mp h, a⟩)
theorem ce1 {s d : Nat} (h : s + 2 ≤ d) : s ≤ d := Nat.le_trans (Nat.le_add_right _ _) h
theorem ce3 {s d : Nat} (h : s + 3 ≤ d) : s ≤ d := Nat.le_trans (Nat.le_add_right _ _) h
theorem ce4 {s : Nat} (h : s + 1 + 1 = s) : False := Nat.ne_of_gt (Nat.lt_add_of_pos_right (k := 2) (by decide)) h
theorem ce5 {s : Nat} (h : s + 1 + 1 = s + 1) : False := Nat.ne_of_gt (Nat.lt_succ_self _) h
theorem ce6 (s : Nat) : s ≤ s + 1 + 1 := Nat.le_add_right s 2
theorem cp1 {n : Nat} (h : 1 ≤ n) : 1 + (n - 1) ≤ n := Nat.le_of_eq (Nat.add_sub_cancel' h)
theorem cp2 {n : Nat} (h : 1 ≤ n) (k : ¬ 1 = n) : 1 + 1 + (n - (1 + 1)) ≤ n := Nat.le_of_eq (Nat.add_sub_cancel' (Nat.lt_of_le_of_ne h k))
theorem cp3 {n m : Nat} (h : 1 ≤ n) (k : ¬ 1 = n) (q : m ≤ 1 + 1 + (n - (1 + 1))) : m ≤ n := Nat.le_trans q (cp2 h k)
theorem cp4 {m k : Nat} (h : 1 + 1 ≤ m) (q : m ≤ k) : 1 ≤ k := Nat.le_trans (Nat.le_trans (by decide) h) q
theorem cp5 {m : Nat} (h : 1 ≤ m) (k : ¬ m > 1) : m = 1 := Nat.le_antisymm (Nat.le_of_not_lt k) h
theorem cp6 {n m : Nat} (h : 1 ≤ n) (q : m ≤ 1 + (n - 1)) : m ≤ n := Nat.le_trans q (cp1 h)
theorem cp7 {n : Nat} (h : 1 ≤ n) (q : ¬ 1 = n) : 1 < 1 + (n - 1) := by rw [Nat.add_sub_cancel' h]; exact Nat.lt_of_le_of_ne h q
theorem cp8 {n m x : Nat} (h : m ≤ n) (q : x ≤ m + (n - m)) : x ≤ n := by rw [Nat.add_sub_cancel' h] at q; exact q
theorem cp9 {k : Nat} (h : 1 ≤ k) : max k 1 = k := Nat.max_eq_left h
theorem bx1 {x y z : Nat} (h : x + y = z) : (z : Int) - (y : Int) = (x : Int) := by rw [← h, Int.natCast_add]; exact Int.add_sub_cancel _ _
theorem zl1 {k n : Nat} (h : k < n) : (0 : Int) < (n : Int) - (k : Int) := Int.sub_pos_of_lt (Int.ofNat_lt.mpr h)
theorem zl2 (k : Nat) : (k : Int) - (k : Int) ≤ 0 := Int.le_of_eq (Int.sub_self _)
theorem zl3 {k i : Nat} (h : i ≥ k) : (k : Int) - (i : Int) ≤ 0 := Int.sub_nonpos_of_le (Int.ofNat_le.mpr h)
theorem zl4 {k i : Nat} (h : ¬ i < k) : (k : Int) - (i : Int) ≤ 0 := zl3 (Nat.le_of_not_lt h)
theorem zl5 {k i : Nat} : (k : Int) - 1 - (i : Int) + -1 = (k : Int) - 1 - ((i + 1 : Nat) : Int) := Int.sub_sub _ _ _
theorem zl6 {lo : Int} {i : Nat} : lo + (i : Int) + 1 = lo + ((i + 1 : Nat) : Int) := Int.add_assoc _ _ _
theorem tL {n : Nat} (h : n < 64) : n ≤ 16777216 := Nat.le_trans (Nat.le_of_lt h) (by decide)
theorem tM {a n : Nat} (q : a ≤ n) (h : n < 64) : a + 1 ≤ 16777216 + 1 := Nat.add_le_add_right (Nat.le_trans q (tL h)) 1
theorem tQ {k : Nat} (h : ¬ (63 : Int) < (k : Int)) (q : 63 < k) : False := h (Int.ofNat_lt.mpr q)
theorem tR {v : Nat} (h : v < 64) (q : (64 : Int) ≤ (v : Int)) : False := Nat.not_le_of_lt h (Int.ofNat_le.mp q)
theorem tS {b : Nat} (h : 0 < b) (e : (b : Int) = 0) : False := Nat.ne_of_gt h (Int.ofNat.inj e)
theorem tT {q : Nat} (h : (q : Int) = 0) : q = 0 := Int.ofNat.inj h
theorem tU {q : Nat} (h : (q : Int) = 1) : q = 1 := Int.ofNat.inj h
theorem tV {q : Nat} (h : (q : Int) = 2) : q = 2 := Int.ofNat.inj h
theorem tW {v : Nat} (h : v ≠ 61) (e : (v : Int) = 61) : False := h (Int.ofNat.inj e)
theorem tX {k : Nat} (h : k = 0) (q : 0 < k) : False := Nat.ne_of_gt q h
theorem tY {n k : Nat} (h : n ≤ 1000) (q : k ≤ n) : k ≤ 100000 := Nat.le_trans (Nat.le_trans q h) (by decide)
theorem tZ {a n k : Nat} (e : a = k) (q : k ≤ n) (h : n ≤ 1000) : a ≤ 100000 := e ▸ tY h q
theorem rs1 {lo hi : Int} (h : lo < hi) : (hi - lo - 1) / 1 + 1 = ((hi - lo).toNat : Int) := by rw [Int.ediv_one, Int.sub_add_cancel, Int.toNat_of_nonneg (Int.le_of_lt (Int.sub_pos_of_lt h))]
theorem rs2 {lo hi : Int} (h : ¬ lo < hi) : 0 = ((hi - lo).toNat : Int) := by rw [Int.toNat_of_nonpos (Int.sub_nonpos_of_le (Int.not_lt.mp h))]; rfl
theorem rs3 {lo hi : Int} (h : -1000000 < lo) (k : hi < 1000000) : ((hi - lo).toNat : Int) < 10000000 := by
  rw [Int.toNat_eq_max]; omega
theorem fm1 {x : Int} (h : 0 ≤ x) (k : x < 8) : x = (x.toNat : Int) ∧ x.toNat < 8 := ⟨ix2 h, ix3 (k := 8) h k⟩
theorem fm2 {x : Int} (h : 0 ≤ x) (k : x < 3) : x + 1 = ((x + 1).toNat : Int) ∧ 1 ≤ (x + 1).toNat ∧ (x + 1).toNat ≤ 3 := by
  have z : 0 ≤ x + 1 := Int.le_trans h (Int.le_of_lt (Int.lt_succ x))
  have e := Int.toNat_of_nonneg z
  exact ⟨e.symm, Int.ofNat_le.mp (e.symm ▸ Int.add_le_add_right h 1), Int.ofNat_le.mp (e.symm ▸ k)⟩
theorem fb1 {x y o l b : Nat} (h : b < 6) (k : x ≤ o + (b + 8)) (q : y ≤ x + 14 * l) : y ≤ o + 14 * (l + 1) := Nat.le_trans q (Nat.le_trans (Nat.add_le_add_right (Nat.le_trans k (Nat.add_le_add_left (Nat.le_trans (Nat.add_le_add_right (Nat.le_of_lt h) 8) (Nat.le_refl 14)) o)) _) (by rw [Nat.mul_succ, Nat.add_assoc, Nat.add_comm 14]; exact Nat.le_refl _))
theorem dr1 {a o b : Nat} {C : Prop} (h : 6 ≤ b) (k : a ≤ o + 1 + (b - 6) ∧ C) : a ≤ o + b ∧ C := ⟨Nat.le_trans k.1 (by rw [Nat.add_assoc]; exact Nat.add_le_add_left (Nat.le_trans (Nat.add_le_add_right (by decide : 1 ≤ 6) _) (Nat.le_of_eq (Nat.add_sub_cancel' h))) o), k.2⟩
theorem oc1 {a k : Nat} (h : a = 1 ∧ k < 262144 ∨ a + k ≤ 5000) (q : (63 : Int) < (k : Int)) : a + 1 + k / 64 ≤ 5000 := by
  rcases h with ⟨e, z⟩ | z
  · rw [e]; exact Nat.le_trans (Nat.add_le_add_left (Nat.le_of_lt (dv6 z)) 2) (by decide)
  · rw [Nat.add_assoc, Nat.add_comm 1]; exact Nat.le_trans (Nat.add_le_add_left (dv3 q) a) z
theorem oc2 {a k : Nat} (h : a = 1 ∧ k < 262144 ∨ a + k ≤ 5000) : a < 100000 := by
  rcases h with ⟨e, _⟩ | z
  · rw [e]; decide
  · exact Nat.lt_of_le_of_lt (Nat.le_trans (Nat.le_add_right a k) z) (by decide)
theorem fa1 {x y o l : Nat} (k : x ≤ o + 1) (q : y ≤ x + l) : y ≤ o + (l + 1) := by rw [Nat.add_comm l, ← Nat.add_assoc]; exact Nat.le_trans q (Nat.add_le_add_right k l)
theorem sa1 {f s R : Nat} (h : R ≤ 3) (k : f ≤ 3 * min s R) : f ≤ 9 := Nat.le_trans k (Nat.mul_le_mul_left 3 (Nat.le_trans (Nat.min_le_right _ _) h))
theorem sa2 {f p s : Nat} (h : f ≤ 9) (k : p ≤ 3) : f + min s p < 100000 := Nat.lt_of_le_of_lt (Nat.add_le_add h (Nat.le_trans (Nat.min_le_right _ _) k)) (by decide)
theorem sa3 {f R : Nat} (h : R ≤ 3) (k : f ≤ 3 * R) : f ≤ 100000 := Nat.le_trans (tw6 k h) (by decide)
theorem sa4 {f R : Nat} (h : R ≤ 3) (k : f ≤ 3 * R) : f ≤ 1000 := Nat.le_trans (tw6 k h) (by decide)
theorem sa5 {f R : Nat} (h : R ≤ 100) (k : f ≤ 3 * R) : f ≤ 20000 := Nat.le_trans (tw6 k h) (by decide)
theorem sg1 {v x l : Nat} (e : v = x) (h : x ≤ l) : v ≤ min l x := by rw [e]; exact Nat.le_min.mpr ⟨h, Nat.le_refl x⟩
theorem sg2 {n l h : Nat} (q : n ≤ h) : n - l ≤ h - l := Nat.sub_le_sub_right q l
theorem st1 {r a i : Nat} (h : r ≤ 2000) (k : a ≤ min i r) : a ≤ 2000 := Nat.le_trans k (Nat.le_trans (Nat.min_le_right _ _) h)
theorem st2 {s a b : Nat} (h : s ≤ 2000) (e : a = b) (k : b ≤ s) : a ≤ 100000 := e ▸ Nat.le_trans (Nat.le_trans k h) (by decide)
theorem st3 {f w : Nat} {C : Prop} (h : ¬ (f : Int) < (w : Int)) (k : C ∧ f < w) : False := h (Int.ofNat_lt.mpr k.2)
theorem kj1 {a f p : Nat} (h : a < f) (k : f ≤ p) (q : p ≤ a) : False := Nat.not_le_of_lt h (Nat.le_trans k q)
theorem kj2 {v f R T : Nat} (h : v < f) (e : R = min f T) (k : R + 1 ≤ T) (q : R ≤ v) : False := by
  rcases Nat.le_total f T with z | z
  · rw [Nat.min_eq_left z] at e; exact Nat.not_le_of_lt h (e ▸ q)
  · rw [Nat.min_eq_right z] at e; exact Nat.not_succ_le_self R (Nat.le_trans k (Nat.le_of_eq e.symm))
theorem kj3 {r a y : Nat} {C : Prop} (h : r ≥ a) (k : C ∧ y < a) (q : r < y) : False := Nat.lt_asymm q (Nat.lt_of_lt_of_le k.2 h)
theorem kj4 {R f F : Nat} (h : f ≤ F) (e : R = f) (q : F + 1 ≤ R) : False := Nat.not_succ_le_self F (Nat.le_trans q (e ▸ h))
theorem kj5 {R f n : Nat} (h : n < f) (e : R = f) (q : R ≤ n) : False := Nat.not_le_of_lt h (e ▸ q)
theorem kj6 {m k f : Nat} (e : m = k) (h : min f m = 0) (q : 0 < k) : f ≤ k := by
  rcases Nat.le_total f m with z | z
  · exact e ▸ z
  · rw [Nat.min_eq_right z] at h; exact absurd (e.symm.trans h) (Nat.ne_of_gt q)
theorem kj7 {v f m k : Nat} (h : v < f) (e : m = k) (q : f ≤ k) (r : min f m ≤ v) : False := by
  rw [Nat.min_eq_left (e ▸ q)] at r; exact Nat.not_le_of_lt h r
theorem kj8 {f N t k : Nat} (h : f ≤ N) (q : t ≤ k) (e : t = min f N) : t = min f k := by
  rw [Nat.min_eq_left h] at e; rw [e, Nat.min_eq_left (e ▸ q)]
theorem fl1 {a b R : Nat} (h : b ≤ 3 * R) (k : a ≤ 3) : a + b ≤ 3 * (R + 1) := by rw [Nat.mul_succ, Nat.add_comm a]; exact Nat.add_le_add h k
theorem en1 {e r : Nat} (h : e ≤ 2 * r + 4) : e ≤ 2 * (r + 1 + 1 + 1) := Nat.le_trans h (by rw [show r + 1 + 1 + 1 = r + 3 from rfl, Nat.mul_add]; exact Nat.add_le_add_left (by decide) _)
theorem nq1 {l m : Nat} (h : l ≤ m - 1) (k : 0 < m) : l + 1 ≤ m := Nat.lt_of_le_of_lt h (Nat.sub_lt k Nat.one_pos)
theorem mn7 (x : Nat) : min 7 x ≤ 99992 := Nat.le_trans (Nat.min_le_left _ _) (by decide)
theorem bm1 {x : Int} (h : 0 ≤ x) (k : x < 1000) : x.toNat ≤ 1000 := Nat.le_of_lt (ix3 (k := 1000) h k)
theorem bm2 {x : Int} (h : 0 ≤ x) (k : x < 1000) : -9223372036854775808 ≤ x ∧ x < 9223372036854775808 := ⟨Int.le_trans (by decide) h, Int.lt_trans k (by decide)⟩
theorem bm3 {v : Nat} (h : v ≤ 10 * 1000) (k : v > (2 ^ 63 - 1) / 8) : False := Nat.not_le_of_lt (Nat.lt_of_le_of_lt h (by decide)) (Nat.le_of_lt k)
theorem tn1 {f T : Nat} (e : 0 = min f T) (h : 0 < T) (k : 0 < f) : False := by
  rcases Nat.le_total f T with z | z
  · rw [Nat.min_eq_left z] at e; exact Nat.ne_of_lt k e
  · rw [Nat.min_eq_right z] at e; exact Nat.ne_of_lt h e
theorem ad10 {i j n : Nat} (h : i < n) (k : j < i + 1) : j < n := Nat.lt_of_lt_of_le k h
theorem n18 {x : Int} (h : x < 262144) : x.toNat < 262144 := (Int.toNat_lt' (by decide)).mpr h
theorem hp40 {n : Nat} (h : n < 40000) : n + 1 < 100000 := Nat.lt_trans (Nat.succ_lt_succ h) (by decide)
theorem hl5 {a N u h : Nat} (p : a ≤ N) (q : u ≤ N) (e : h = u) : a ≤ N ∧ h ≤ N := ⟨p, e ▸ q⟩
theorem ch1 {c n : Nat} {C : Prop} (h : c + 1 < n ∧ C) : c + 1 < n ∧ c ≤ c + 1 := ⟨h.1, Nat.le_succ c⟩
theorem ch2 {c n : Nat} (h : c < n) : c < n ∧ c ≤ c := ⟨h, Nat.le_refl c⟩
theorem no1 {w z b f : Nat} {C : Prop} (h : w ≤ z ∧ w ≤ b ∧ C) (k : f ≤ w) : f ≤ b := Nat.le_trans k h.2.1
theorem no2 {w z : Nat} {f : Nat} {C : Prop} (h : w ≤ z ∧ C) (k : f ≤ w) : f ≤ z := Nat.le_trans k h.1
theorem rk1 {a b : Nat} (h : a < b) (k : (b : Int) < (a : Int)) : False := Nat.lt_asymm h (Int.ofNat_lt.mp k)
theorem nk1 {a : Nat} {C : Prop} (h : C ∧ a < 8) : a ≤ 7 := Nat.le_of_lt_succ h.2
theorem cl1 {u c : Nat} (h : u + 64 < c) : u < c := Nat.lt_of_le_of_lt (Nat.le_add_right u 64) h
theorem lb1 (i j : Nat) : i < j + (i + 1) := Nat.lt_of_lt_of_le (Nat.lt_succ_self i) (Nat.le_add_left _ _)
theorem mr1 (n : Int) : 0 + (n - 1) * 1 = n - 1 := by rw [Int.zero_add, Int.mul_one]
theorem sk1 {n w v i j : Nat} (a : w = n) (b : v < 2) (e : v = n) (h : i ≤ j) (k : j < w) : i = j := by
  have k : j ≤ 0 := Nat.le_of_lt_succ (Nat.lt_of_lt_of_le k (Nat.le_of_lt_succ (a.trans e.symm ▸ b)))
  exact Nat.le_antisymm h (Nat.le_trans k (Nat.zero_le i))
theorem sk2 {n v : Nat} (b : ¬ v < 2) (e : v = n) : 2 ≤ n := e ▸ Nat.le_of_not_lt b
theorem ls1 {a b k u v : Nat} (p : a = k + 1) (q : b = k + 1) (r : u = a) (s : v = b) (h : u < v) : False := Nat.ne_of_lt h (r.trans (p.trans (q.symm.trans s.symm)))
theorem nx0 {n : Nat} (h : n + 1 ≤ n) : False := Nat.not_succ_le_self n h
theorem rv1 {k m : Nat} (h : ¬ k < m) (q : 0 ≤ k ∧ k < m) : False := h q.2
theorem ip1 {x : Int} (h : 0 < x) (k : x ≤ 0) : False := Int.not_le.mpr h k
theorem nn {p : Prop} (h : p) : ¬ ¬ p := fun k => k h
theorem tb0 {a b : Nat} (e : a / 2 = b / 2) (h : ¬ a % 2 = 1) (k : b % 2 = 1) (q : b ≤ a) : False := by
  rw [← Nat.div_add_mod a 2, ← Nat.div_add_mod b 2, e, k, Nat.mod_two_ne_one.mp h] at q
  exact Nat.not_succ_le_self _ q
end Mine
end
section
open PySem PySem.Calls PyProof.Rows
namespace Mine
theorem nsF {α : Type _} {x : α} {P : Prop} (h : none = some x) : P := by cases h
theorem snF {α : Type _} {x : α} {P : Prop} (h : some x = none) : P := by cases h
theorem opq {G : Prop} (h : ∀ X : Prop, (G → X) → X) : G := h G id
/-- plain values: no tokens, tuples by their items -/
inductive PV where
  | none | bool (b : Bool) | int (i : Int) | bytes (b : List UInt8) | str (s : Str) | tup (xs : List PV) | ref (a : Addr) | type (n : String) | builtin (id : String)
mutual
noncomputable def Den (h : Heap) : PV → Value → Prop
  | .none, v => v = .none
  | .bool b, v => v = .bool b
  | .int i, v => ∃ t, v = .int i t
  | .bytes b, v => ∃ t, v = .bytes b.toArray t
  | .str x, v => ∃ t, v = .str x t
  | .ref a, v => v = .ref a
  | .type n, v => v = .type n
  | .builtin n, v => v = .builtin n
  | .tup xs, v => ∃ a vs, v = .ref a ∧ h.get? a = some { cls := .type "tuple", data := .seq vs } ∧ DenL h xs vs.toList
noncomputable def DenL (h : Heap) : List PV → List Value → Prop
  | [], vs => vs = []
  | p :: ps, vs => ∃ v vs', vs = v :: vs' ∧ Den h p v ∧ DenL h ps vs'
end
noncomputable def TupO (o : Obj) : Prop := o.cls = .type "tuple" ∧ ∃ vs n, o.data = .seq vs n
noncomputable def TupKeep (h h' : Heap) : Prop := ∀ a o, h.get? a = some o → TupO o → h'.get? a = some o
theorem TupKeep.refl (h : Heap) : TupKeep h h := fun _ o e _ => e
theorem TupKeep.trans {h₁ h₂ h₃ : Heap} (x : TupKeep h₁ h₂) (y : TupKeep h₂ h₃) : TupKeep h₁ h₃ := fun a o e c => y a o (x a o e c) c
/-- the same but for a frame's slots -/
noncomputable def Kin (o o' : Obj) : Prop := o' = o ∨ ∃ es ep sl, o.data = .dict es ep ∧ o' = { o with slots := sl }
theorem Kin.rfl' {o : Obj} : Kin o o := .inl rfl
theorem Kin.trans {a b c : Obj} (x : Kin a b) (y : Kin b c) : Kin a c := by
  rcases x with rfl | ⟨es, ep, sl, d, rfl⟩
  · exact y
  · rcases y with rfl | ⟨es', ep', sl', d', rfl⟩
    · exact .inr ⟨es, ep, sl, d, rfl⟩
    · exact .inr ⟨es, ep, sl', d, rfl⟩
theorem Kin.of_not {o o' : Obj} (x : Kin o o') (h : ∀ es ep, o.data ≠ .dict es ep) : o' = o := x.elim id fun ⟨es, ep, _, d, _⟩ => absurd d (h es ep)
theorem Kin.data {o o' : Obj} (x : Kin o o') : o'.data = o.data ∧ o'.cls = o.cls ∧ o'.dict = o.dict := by
  rcases x with rfl | ⟨es, ep, sl, d, rfl⟩ <;> exact ⟨rfl, rfl, rfl⟩
mutual
theorem Den.keeps {h h' : Heap} (k : TupKeep h h') : ∀ {p : PV} {v : Value}, Den h p v → Den h' p v
  | .none, _, e => e
  | .bool _, _, e => e
  | .int _, _, e => e
  | .bytes _, _, e => e
  | .str _, _, e => e
  | .ref _, _, e => e
  | .type _, _, e => e
  | .builtin _, _, e => e
  | .tup xs, _, ⟨a, vs, e1, e2, e5⟩ => ⟨a, vs, e1, k a _ e2 ⟨rfl, vs, 0, rfl⟩, DenL.keeps k e5⟩
theorem DenL.keeps {h h' : Heap} (k : TupKeep h h') : ∀ {ps : List PV} {vs : List Value}, DenL h ps vs → DenL h' ps vs
  | [], _, e => e
  | _ :: _, _, ⟨v, vs', e1, e2, e3⟩ => ⟨v, vs', e1, Den.keeps k e2, DenL.keeps k e3⟩
end
theorem DenL.length {h : Heap} : ∀ {ps : List PV} {vs : List Value}, DenL h ps vs → vs.length = ps.length
  | [], vs, e => by rw [show vs = [] from e]; rfl
  | _ :: _, _, ⟨v, vs', e1, e2, e3⟩ => by rw [e1, List.length_cons, List.length_cons, DenL.length e3]
theorem DenL.get {h : Heap} : ∀ {ps : List PV} {vs : List Value} {i : Nat} {p : PV}, DenL h ps vs → ps[i]? = some p → ∃ v, vs[i]? = some v ∧ Den h p v
  | [], _, _, _, _, e => by simp at e
  | _ :: _, _, 0, _, ⟨v, vs', e1, e2, e3⟩, e => by subst e1; simp at e; subst e; exact ⟨v, by simp, e2⟩
  | _ :: _, _, i + 1, _, ⟨v, vs', e1, e2, e3⟩, e => by
    subst e1
    obtain ⟨w, h1, h2⟩ := DenL.get (i := i) e3 (by simpa using e)
    exact ⟨w, by simpa using h1, h2⟩
theorem DenL.get' {h : Heap} : ∀ {ps : List PV} {vs : List Value} {i : Nat} {v : Value}, DenL h ps vs → vs[i]? = some v → ∃ p, ps[i]? = some p ∧ Den h p v
  | [], vs, _, _, e, e' => by rw [show vs = [] from e] at e'; simp at e'
  | p :: _, _, 0, _, ⟨v, vs', e1, e2, e3⟩, e => by subst e1; simp at e; subst e; exact ⟨p, by simp, e2⟩
  | _ :: _, _, i + 1, _, ⟨v, vs', e1, e2, e3⟩, e => by
    subst e1
    obtain ⟨w, h1, h2⟩ := DenL.get' (i := i) e3 (by simpa using e)
    exact ⟨w, by simpa using h1, h2⟩
theorem DenL.append {h : Heap} : ∀ {ps qs : List PV} {vs ws : List Value}, DenL h ps vs → DenL h qs ws → DenL h (ps ++ qs) (vs ++ ws)
  | [], _, _, _, e, e' => by rw [show _ = [] from e]; exact e'
  | _ :: _, _, _, _, ⟨v, vs', e1, e2, e3⟩, e' => by subst e1; exact ⟨v, _, rfl, e2, DenL.append e3 e'⟩
theorem DenL.drop {h : Heap} : ∀ {ps : List PV} {vs : List Value} (n : Nat), DenL h ps vs → DenL h (ps.drop n) (vs.drop n)
  | _, _, 0, e => e
  | [], vs, n + 1, e => by rw [show vs = [] from e]; exact rfl
  | _ :: _, _, n + 1, ⟨v, vs', e1, e2, e3⟩ => by subst e1; exact DenL.drop n e3
theorem DenL.take {h : Heap} : ∀ {ps : List PV} {vs : List Value} (n : Nat), DenL h ps vs → DenL h (ps.take n) (vs.take n)
  | _, _, 0, e => rfl
  | [], vs, n + 1, e => by rw [show vs = [] from e]; exact rfl
  | _ :: _, _, n + 1, ⟨v, vs', e1, e2, e3⟩ => by subst e1; exact ⟨v, _, rfl, e2, DenL.take n e3⟩
theorem DenL.one {h : Heap} {p : PV} {v : Value} (e : Den h p v) : DenL h [p] [v] := ⟨v, [], rfl, e, rfl⟩
theorem DenL.set {h : Heap} : ∀ {ps : List PV} {vs : List Value} (i : Nat) {p : PV} {v : Value}, DenL h ps vs → Den h p v → DenL h (ps.set i p) (vs.set i v)
  | [], vs, i, _, _, e, _ => by rw [show vs = [] from e]; exact rfl
  | _ :: _, _, 0, _, w, ⟨v, vs', e1, e2, e3⟩, e => by subst e1; exact ⟨w, vs', rfl, e, e3⟩
  | _ :: _, _, i + 1, _, w, ⟨v, vs', e1, e2, e3⟩, e => by subst e1; exact ⟨v, _, rfl, e2, DenL.set i e3 e⟩
theorem DenL.cons_inv {h : Heap} {p : PV} {ps : List PV} {v : Value} {vs : List Value} (e : DenL h (p :: ps) (v :: vs)) : Den h p v ∧ DenL h ps vs := by
  refine opq fun Gq hGq => ?_
  obtain ⟨w, ws, e1, e2, e3⟩ := e
  cases e1
  refine hGq ?_
  exact ⟨e2, e3⟩
/-- the objects that the call makes and sees -/
inductive AO where
  | list (xs : List PV)
  | rlist (xs : List PV)
  | range (lo hi : Int)
  | biter (b : List UInt8) (i : Nat)
  | liter (l : Addr) (i : Nat)
  | plain
  | obj (o : Obj)
noncomputable def AO.Is (h : Heap) : AO → Obj → Prop
  | .list xs, o => ∃ vs n, o = { cls := .type "list", data := .seq vs n } ∧ DenL h xs vs.toList
  | .rlist xs, o => o.cls = .type "list" ∧ ∃ vs n, o.data = .seq vs n ∧ DenL h xs vs.toList
  | .range lo hi, o => ∃ t u v, o = { cls := .type "range", data := .fields #[.int lo t, .int hi u, .int 1 v] }
  | .biter b i, o => ∃ t, o = { cls := .type "bytes_iterator", data := .fields #[.bytes b.toArray t, .int i 0] }
  | .liter l i, o => o.cls = .type "list_iterator" ∧ o.data = .fields #[.ref l, .int i 0]
  | .plain, o => o.cls = .type "object" ∧ ∀ vs n, o.data ≠ .dict vs n
  | .obj z, o => o = z ∧ ¬ (z.cls = .type "tuple" ∧ ∃ vs n, z.data = .seq vs n)
theorem AO.Is.keeps {h h' : Heap} (k : TupKeep h h') : ∀ {x : AO} {o : Obj}, x.Is h o → x.Is h' o
  | .list _, _, ⟨vs, n, c, d⟩ => ⟨vs, n, c, d.keeps k⟩
  | .rlist _, _, ⟨a, vs, n, c, d⟩ => ⟨a, vs, n, c, d.keeps k⟩
  | .range .., _, e => e
  | .biter .., _, e => e
  | .liter .., _, e => e
  | .plain, _, e => e
  | .obj _, _, e => e
theorem AO.Is.notTup {h : Heap} : ∀ {x : AO} {o : Obj}, x.Is h o → ¬ TupO o
  | .list _, _, ⟨_, _, a, _⟩ => fun q => by have := q.1; rw [a] at this; simp at this
  | .rlist _, _, ⟨a, _⟩ => fun q => by have := q.1; rw [a] at this; exact absurd this (by decide)
  | .range .., _, ⟨_, _, _, e⟩ => fun q => by have := q.1; rw [e] at this; simp at this
  | .biter .., _, ⟨_, e⟩ => fun q => by have := q.1; rw [e] at this; simp at this
  | .liter .., _, ⟨a, _⟩ => fun q => by have := q.1; rw [a] at this; exact absurd this (by decide)
  | .plain, _, ⟨a, _⟩ => fun q => by have := q.1; rw [a] at this; exact absurd this (by decide)
  | .obj _, _, ⟨a, b⟩ => fun q => b (a ▸ q)
noncomputable abbrev Vars := List (Str × PV)
noncomputable abbrev HF := Addr → Option AO
noncomputable abbrev RF := Addr → Option Obj
noncomputable def HF.set (H : HF) (a : Addr) (x : AO) : HF := fun b => if b = a then some x else H b
theorem HF.set_self (H : HF) (a : Addr) (x : AO) : H.set a x a = some x := if_pos rfl
theorem HF.set_other {H : HF} {a b : Addr} {x : AO} (h : b ≠ a) : H.set a x b = H b := if_neg h
theorem HF.set_set (H : HF) (a : Addr) (x y : AO) : (H.set a x).set a y = H.set a y := by
  funext b; by_cases h : b = a <;> simp [HF.set, h]
theorem HF.set_eq {H : HF} {a : Addr} {x : AO} (h : H a = some x) : H.set a x = H := by
  funext b; by_cases e : b = a
  · subst e; rw [HF.set_self, h]
  · rw [HF.set_other e]
theorem HF.set_comm {H : HF} {a b : Addr} {x y : AO} (h : a ≠ b) : (H.set a x).set b y = (H.set b y).set a x := by
  funext c
  unfold HF.set
  by_cases e : c = b
  · by_cases e' : c = a
    · exact absurd (e'.symm.trans e) h
    · rw [if_pos e, if_neg e', if_pos e]
  · by_cases e' : c = a
    · rw [if_neg e, if_pos e', if_pos e']
    · rw [if_neg e, if_neg e', if_neg e', if_neg e]
/-- less is known -/
noncomputable def HF.Le (H H' : HF) : Prop := ∀ a x, H a = some x → H' a = some x
theorem HF.Le.refl (H : HF) : H.Le H := fun _ _ e => e
noncomputable def Vars.Le (m m' : Vars) : Prop := ∀ x p, m.lookup x = some p → m'.lookup x = some p
theorem Vars.Le.refl (m : Vars) : m.Le m := fun _ _ e => e
structure G where
  prog : Program
  w : World
  h₀ : Heap
  glob : Vars
  nolimit : h₀.NoLimit
  names : ∃ mg mb, h₀.Ns mainGlobals mg ∧ h₀.Ns builtinsNs mb ∧ ∀ x p, glob.lookup x = some p → ∃ v, Den h₀ p v ∧ (mg x = some v ∨ (mg x = none ∧ mb x = some v))
  bmod : ∃ mg bm ob, h₀.Ns mainGlobals mg ∧ mg "__builtins__" = some (.ref bm) ∧ bm ≠ builtinsNs ∧ h₀.get? bm = some ob ∧ ob.cls = .type "module" ∧ ob.dict = some builtinsNs ∧ ob.data = .plain
/-- heap: the ground, what must stay, what is ours, the frames -/
structure HI (g : G) (Fs : List Addr) (R : RF) (H : HF) (h : Heap) : Prop where
  base : ∀ b o, g.h₀.get? b = some o → h.get? b = some o
  rest : ∀ b o, R b = some o → ∃ o', h.get? b = some o' ∧ Kin o o'
  mine : ∀ a x, H a = some x → g.h₀.get? a = none ∧ R a = none ∧ ∃ o, h.get? a = some o ∧ x.Is h o
  frs : ∀ L ∈ Fs, g.h₀.get? L = none ∧ H L = none ∧ ∃ o es ep, h.get? L = some o ∧ o.data = .dict es ep
/-- the same but for heap and tokens -/
noncomputable def Same (s s' : Shared) : Prop := s' = { s with heap := s'.heap, toks := s'.toks }
theorem Same.rfl' {s : Shared} : Same s s := by cases s; exact rfl
theorem Same.mk {s : Shared} {h : Heap} {tk : Nat} : Same s { s with heap := h, toks := tk } := rfl
theorem Same.trans {s s' s'' : Shared} (a : Same s s') (b : Same s' s'') : Same s s'' := by
  unfold Same at *; rw [a] at b; exact b
theorem Same.heap {s : Shared} {h : Heap} : Same s { s with heap := h } := rfl
theorem Same.toks {s : Shared} {h : Nat} : Same s { s with toks := h } := rfl
/-- the heap has got more and changed nothing -/
noncomputable def Ext (h h' : Heap) : Prop := ∀ b o, h.get? b = some o → h'.get? b = some o
theorem Ext.trans {a b c : Heap} (x : Ext a b) (y : Ext b c) : Ext a c := fun _ _ e => y _ _ (x _ _ e)
theorem Ext.push (h : Heap) (o : Obj) : Ext h (h.push o) := fun _ _ e => Heap.get?_push_of_some o e
theorem Ext.tup {h h' : Heap} (k : Ext h h') : TupKeep h h' := fun a o e _ => k a o e
section
variable {g : G} {Fs : List Addr} {R : RF} {H : HF} {h h' : Heap}
theorem HI.ext (I : HI g Fs R H h) (k : Ext h h') : HI g Fs R H h' where
  base := fun b o e => k _ _ (I.base b o e)
  rest := fun b o e => let ⟨o', e', q⟩ := I.rest b o e; ⟨o', k _ _ e', q⟩
  mine := fun a x e => let ⟨p, q, o, ho, hi⟩ := I.mine a x e; ⟨p, q, o, k _ _ ho, hi.keeps k.tup⟩
  frs := fun L hL => let ⟨a, b, o, es, ep, e, d⟩ := I.frs L hL; ⟨a, b, o, es, ep, k _ _ e, d⟩
theorem HI.less {H' : HF} (I : HI g Fs R H h) (k : H'.Le H) : HI g Fs R H' h :=
  { I with
    mine := fun a x e => I.mine a x (k a x e)
    frs := fun L hL => let ⟨a, b, c⟩ := I.frs L hL; ⟨a, (by
      cases e : H' L with
      | none => rfl
      | some x => (rw [k _ _ e] at b; (first | exact nsF b | exact snF b | cases b))), c⟩ }
theorem HI.sizeH (I : HI g Fs R H h) : H h.objs.size = none := by
  cases e : H h.objs.size with
  | none => rfl
  | some x =>
    refine opq fun Gq hGq => ?_
    obtain ⟨_, _, o, ho, _⟩ := I.mine _ _ e
    refine hGq ?_
    exact absurd (Heap.lt_size ho) (Nat.lt_irrefl _)
theorem HI.sizeR (I : HI g Fs R H h) : R h.objs.size = none := by
  cases e : R h.objs.size with
  | none => rfl
  | some x =>
    obtain ⟨_, e', _⟩ := I.rest _ _ e
    exact absurd (Heap.lt_size e') (Nat.lt_irrefl _)
theorem HI.sizeB (I : HI g Fs R H h) : g.h₀.get? h.objs.size = none := by
  cases e : g.h₀.get? h.objs.size with
  | none => rfl
  | some x => exact absurd (Heap.lt_size (I.base _ _ e)) (Nat.lt_irrefl _)
/-- a new object -/
theorem HI.alloc {x : AO} {o : Obj} (I : HI g Fs R H h) (hx : x.Is h o) (hf : o.isFreed = false) : HI g Fs R (H.set h.objs.size x) (h.push o) := by
  have J := I.ext (Ext.push h o)
  refine { J with mine := fun a y e => ?_, frs := fun L hL => ?_ }
  · by_cases ha : a = h.objs.size
    · subst ha
      rw [HF.set_self] at e; (first | exact nsF e | exact snF e | cases e)
      exact ⟨I.sizeB, I.sizeR, o, Heap.get?_push_size _ hf, hx.keeps (Ext.push h o).tup⟩
    · rw [HF.set_other ha] at e
      exact J.mine a y e
  · refine opq fun Gq hGq => ?_
    obtain ⟨a, b, o', es, ep, e, d⟩ := I.frs L hL
    refine hGq ?_
    exact ⟨a, by rw [HF.set_other (Nat.ne_of_lt (Heap.lt_size e))]; exact b, o', es, ep, Heap.get?_push_of_some _ e, d⟩
theorem HI.tupKeep {a : Addr} {x : AO} (I : HI g Fs R H h) (ha : H a = some x) (hs : Heap.SameBut a h h') : TupKeep h h' := fun b o e c => by
  refine (hs.2 b ?_).trans e
  rintro rfl
  refine opq fun Gq hGq => ?_
  obtain ⟨_, _, o', h1, h2⟩ := I.mine _ _ ha
  refine hGq ?_
  rw [e] at h1; (first | exact nsF h1 | exact snF h1 | cases h1)
  exact h2.notTup c
/-- an object of ours has changed -/
theorem HI.upd {a : Addr} {x y : AO} {o' : Obj} (I : HI g Fs R H h) (ha : H a = some x) (hs : Heap.SameBut a h h') (ho : h'.get? a = some o') (hy : y.Is h o') :
    HI g Fs R (H.set a y) h' := by
  obtain ⟨hB, hR, _⟩ := I.mine a x ha
  have hk := I.tupKeep ha hs
  refine ⟨fun b o e => (hs.2 b ?_).trans (I.base b o e), fun b o e => ?_, fun b z e => ?_, fun L hL => ?_⟩
  · rintro rfl; rw [hB] at e; cases e
  · obtain ⟨o', e', q⟩ := I.rest b o e
    exact ⟨o', (hs.2 b (by rintro rfl; rw [hR] at e; cases e)).trans e', q⟩
  · by_cases hb : b = a
    · subst hb
      rw [HF.set_self] at e; (first | exact nsF e | exact snF e | cases e)
      exact ⟨hB, hR, o', ho, hy.keeps hk⟩
    · rw [HF.set_other hb] at e
      refine opq fun Gq hGq => ?_
      obtain ⟨p, q, o, h1, h2⟩ := I.mine b z e
      refine hGq ?_
      exact ⟨p, q, o, (hs.2 b hb).trans h1, h2.keeps hk⟩
  · refine opq fun Gq hGq => ?_
    obtain ⟨p, q, o, es, ep, e, d⟩ := I.frs L hL
    refine hGq ?_
    have hLa : L ≠ a := by rintro rfl; rw [q] at ha; cases ha
    exact ⟨p, by rw [HF.set_other hLa]; exact q, o, es, ep, (hs.2 L hLa).trans e, d⟩
end
/-- room for n calls within each other -/
noncomputable def Room (n : Nat) (Fs : List Addr) (A : Around) : Prop :=
  A.handled = none ∧ A.depth + n < 900 ∧ A.units + 20 * n < 9000 ∧ ∃ l, A.frames = some l ∧ l.map (·.frame) = Fs.map some ∧ ∀ e ∈ l, e.scope.kind ≠ .module
/-- what an operation leaves -/
inductive OpR (g : G) (Fs : List Addr) (R : RF) (s : Shared) {α β : Type} (Rel : Heap → β → α → Prop) (Q : β → HF → Prop) (a : α) (s' : Shared) : Prop
  | mk (b : β) (H' : HF) (q : Q b H') (d : Rel s'.heap b a) (I : HI g Fs R H' s'.heap) (e : Same s s')
@[irreducible] noncomputable def Op (g : G) (n : Nat) {α β : Type} (P : Heap → Prop) (t : Sem α) (H : HF) (Rel : Heap → β → α → Prop) (Q : β → HF → Prop) : Prop :=
  ∀ (A : Around) (Fs : List Addr) (R : RF) (s : Shared) (E : Value → Shared → Prop), Room n Fs A → HI g Fs R H s.heap → P s.heap →
    wpAny (model g.prog g.w) A t (OpR g Fs R s Rel Q) E s
noncomputable def Eqs {α : Type} (_ : Heap) (b a : α) : Prop := b = a
open Classical in
/-- what the rest keeps, the tuples too -/
noncomputable def tupR (R : RF) (h : Heap) : RF := fun b => match R b with
  | some o => some o
  | none => match h.get? b with
    | some o => if TupO o then some o else none
    | none => none
theorem tupR_of {R : RF} {h : Heap} {b : Addr} {o : Obj} (e : R b = some o) : tupR R h b = some o := by unfold tupR; rw [e]
theorem tupR_none {R : RF} {h : Heap} {b : Addr} (e : tupR R h b = none) : R b = none := by
  cases e' : R b with
  | none => rfl
  | some o => rw [tupR_of e'] at e; (first | exact nsF e | exact snF e | cases e)
theorem tupR_cases {R : RF} {h : Heap} {b : Addr} {o : Obj} (e : tupR R h b = some o) : R b = some o ∨ (h.get? b = some o ∧ TupO o) := by
  unfold tupR at e
  split at e
  · exact .inl (by rw [← e]; assumption)
  · split at e
    · split at e
      · cases e; exact .inr ⟨by assumption, by assumption⟩
      · cases e
    · cases e
theorem TupO.kin {o o' : Obj} (c : TupO o') (q : Kin o o') : o' = o := q.of_not fun es ep d => by
  obtain ⟨_, vs, n, e⟩ := c
  rw [q.data.1, d] at e; (first | exact nsF e | exact snF e | cases e)
theorem tupR_keep {R : RF} {h h' : Heap} (rest : ∀ b o, R b = some o → ∃ o', h.get? b = some o' ∧ Kin o o') (k : ∀ b o, tupR R h b = some o → ∃ o', h'.get? b = some o' ∧ Kin o o') : TupKeep h h' := by
  intro a o e c
  cases e' : R a with
  | some o' =>
    obtain ⟨o2, h1, q1⟩ := rest _ _ e'
    rw [e] at h1; (first | exact nsF h1 | exact snF h1 | cases h1)
    have := c.kin q1; subst this
    obtain ⟨o3, h2, q2⟩ := k a o (tupR_of e')
    rw [h2, q2.of_not fun es ep d => by obtain ⟨_, vs, n, e⟩ := c; rw [d] at e; cases e]
  | none =>
    obtain ⟨o3, h2, q2⟩ := k a o (by unfold tupR; rw [e', e]; simp [c])
    rw [h2, q2.of_not fun es ep d => by obtain ⟨_, vs, n, e⟩ := c; rw [d] at e; cases e]
theorem HI.tupR {g : G} {Fs : List Addr} {R : RF} {H : HF} {h : Heap} (I : HI g Fs R H h) : HI g Fs (tupR R h) H h :=
  { I with
    rest := fun b o e => (tupR_cases e).elim (I.rest b o) fun e => ⟨o, e.1, .rfl'⟩
    mine := fun a x e => by
      refine opq fun Gq hGq => ?_
      obtain ⟨p, q, o, h1, h2⟩ := I.mine a x e
      refine hGq ?_
      refine ⟨p, ?_, o, h1, h2⟩
      cases e' : Mine.tupR R h a with
      | none => rfl
      | some o' =>
        rcases tupR_cases e' with e' | ⟨e', c⟩
        · rw [q] at e'; (first | exact nsF e' | exact snF e' | cases e')
        · rw [h1] at e'; (first | exact nsF e' | exact snF e' | cases e'); exact absurd c h2.notTup }
theorem HI.untup {g : G} {Fs : List Addr} {R : RF} {H : HF} {h h' : Heap} (I : HI g Fs (Mine.tupR R h) H h') : HI g Fs R H h' :=
  { I with
    rest := fun b o e => I.rest b o (tupR_of e)
    mine := fun a x e => let ⟨p, q, r⟩ := I.mine a x e; ⟨p, tupR_none q, r⟩ }
section
variable {g : G} {n : Nat} {α β γ δ : Type} {P P' : Heap → Prop} {t : Sem α} {H : HF} {Rel : Heap → β → α → Prop} {Q Q' : β → HF → Prop}
theorem Op.mk (h : ∀ (A : Around) (Fs : List Addr) (R : RF) (s : Shared) (E : Value → Shared → Prop), Room n Fs A → HI g Fs R H s.heap → P s.heap →
    wpAny (model g.prog g.w) A t (OpR g Fs R s Rel Q) E s) : Op g n P t H Rel Q := by
  unfold Op; exact h
theorem Op.bd (h : Op g n P t H Rel Q) {A : Around} {Fs : List Addr} {R : RF} {s : Shared} {E : Value → Shared → Prop} {W : α → Shared → Prop} (r : Room n Fs A) (I : HI g Fs R H s.heap) (p : P s.heap)
    (k : ∀ a s' b H', Q b H' → Rel s'.heap b a → HI g Fs R H' s'.heap → Same s s' → TupKeep s.heap s'.heap → W a s') : wpAny (model g.prog g.w) A t W E s := by
  unfold Op at h
  exact wpAny_mono (h A Fs (tupR R s.heap) s E r I.tupR p) (fun a s' x => x.casesOn fun b H' h1 h2 h3 h4 => k a s' b H' h1 h2 h3.untup h4 (tupR_keep I.rest h3.rest)) fun _ _ x => x
end
theorem Room.in1 {n : Nat} {Fs : List Addr} {A : Around} (h : Room (n + 1) Fs A) : Room n Fs A.in1 :=
  ⟨h.1, by have := h.2.1; simp only [Around.in1_depth]; with_reducible exact un4 (by assumption), by have := h.2.2.1; simp only [Around.in1_units]; with_reducible exact un2 (by assumption), h.2.2.2⟩
end Mine
end
section
open PySem PySem.Calls PyProof.Rows
namespace Mine
structure Cx where
  g : G
  n : Nat
  tp : Bool
  ow : Str → Bool
  sc : Scope
  cd : Value
structure EnvOK (c : Cx) (A : Around) (env : Env) : Prop where
  scope : env.scope = c.sc
  kind : c.sc.kind = .function
  globals : env.globals = mainGlobals
  builtins : env.builtins = builtinsNs
  code : env.code = c.cd
  qual : c.tp = true → ∃ q, c.g.h₀.CodeRec c.cd q ∧ env.qual = q ++ ".<locals>."
  top : c.tp = true → ∃ outer, A.frames = some (env :: outer) ∧ env.frame = some env.locals
noncomputable def kindIn (c : Cx) (x : Str) : Option NameKind := c.sc.names.lookup x
structure Inv (c : Cx) (env : Env) (Fs : List Addr) (R : RF) (m : Vars) (H : HF) (h : Heap) : Prop where
  hi : HI c.g Fs R H h
  locR : R env.locals = none
  locB : c.g.h₀.get? env.locals = none
  locH : H env.locals = none
  locs : ∃ mv, h.Ns env.locals mv ∧ ∀ x p, m.lookup x = some p → kindIn c x = some .local → ∃ v, mv x = some v ∧ Den h p v
  cels : ∀ x, (kindIn c x = some .cell ∨ kindIn c x = some .free) → ∃ a v, env.cells.lookup x = some a ∧ h.IsCell a v ∧ ∀ p, m.lookup x = some p → ∃ w, v = some w ∧ Den h p w
  celH : ∀ x a, env.cells.lookup x = some a → H a = none ∧ ∃ v, h.IsCell a v
  own : ∀ x, kindIn c x = some .cell → c.ow x = true → ∃ a, env.cells.lookup x = some a ∧ R a = none ∧ c.g.h₀.get? a = none ∧ ∀ y d, y ≠ x → env.cells.lookup y = some d → d ≠ a
theorem Heap.Ns.lk {h h' : Heap} {a : Addr} {m : Str → Option Value} (hn : h.Ns a m) (k : ∀ o, h.get? a = some o → ∃ o', h'.get? a = some o' ∧ Kin o o') : h'.Ns a m := by
  refine opq fun Gq hGq => ?_
  obtain ⟨o, es, ep, ho, hd, r⟩ := hn
  obtain ⟨o', ho', q⟩ := k o ho
  refine hGq ?_
  exact ⟨o', es, ep, ho', q.data.1.trans hd, r⟩
theorem isCell_lk {h h' : Heap} {a : Addr} {v : Option Value} (hn : h.IsCell a v) (k : ∀ o, h.get? a = some o → ∃ o', h'.get? a = some o' ∧ Kin o o') : h'.IsCell a v := by
  refine opq fun Gq hGq => ?_
  obtain ⟨o, ho, hd⟩ := hn
  obtain ⟨o', ho', q⟩ := k o ho
  refine hGq ?_
  exact ⟨o', ho', q.data.1.trans hd⟩
section
variable {c : Cx} {env : Env} {Fs : List Addr} {R : RF} {m m' : Vars} {H H' : HF} {h h' : Heap}
theorem Inv.notTup (I : Inv c env Fs R m H h) {o : Obj} (e : h.get? env.locals = some o) : ¬ TupO o := by
  rintro ⟨_, vs, n, d⟩
  refine opq fun Gq hGq => ?_
  obtain ⟨mv, ⟨o', es, ep, e', d', _⟩, _⟩ := I.locs
  refine hGq ?_
  rw [e] at e'; (first | exact nsF e' | exact snF e' | cases e'); rw [d] at d'; (first | exact nsF d' | exact snF d' | obtain rfl := Option.some.inj d' | cases d')
theorem cell_notTup {a : Addr} {v : Option Value} (I : h.IsCell a v) {o : Obj} (e : h.get? a = some o) : ¬ TupO o := by
  rintro ⟨_, vs, n, d⟩
  obtain ⟨o', e', d'⟩ := I
  rw [e] at e'; (first | exact nsF e' | exact snF e' | cases e'); rw [d] at d'; (first | exact nsF d' | exact snF d' | obtain rfl := Option.some.inj d' | cases d')
theorem Inv.tupR (I : Inv c env Fs R m H h) : Inv c env Fs (Mine.tupR R h) m H h :=
  { I with
    hi := I.hi.tupR
    locR := by
      cases e : Mine.tupR R h env.locals with
      | none => rfl
      | some o =>
        rcases tupR_cases e with e | ⟨e, q⟩
        · rw [I.locR] at e; (first | exact nsF e | exact snF e | cases e)
        · exact absurd q (I.notTup e)
    own := fun x hx ho => by
      refine opq fun Gq hGq => ?_
      obtain ⟨a, e1, e2, e3, e4⟩ := I.own x hx ho
      refine hGq ?_
      refine ⟨a, e1, ?_, e3, e4⟩
      cases e : Mine.tupR R h a with
      | none => rfl
      | some o =>
        rcases tupR_cases e with e | ⟨e, q⟩
        · rw [e2] at e; (first | exact nsF e | exact snF e | cases e)
        · refine opq fun Gq hGq => ?_
          obtain ⟨a', v, q1, q2, _⟩ := I.cels x (.inl hx)
          refine hGq ?_
          rw [e1] at q1; (first | exact nsF q1 | exact snF q1 | cases q1)
          exact absurd q (cell_notTup q2 e) }
theorem Inv.untup {h₀ : Heap} (I : Inv c env Fs (Mine.tupR R h₀) m H h) : Inv c env Fs R m H h :=
  { I with
    hi := I.hi.untup
    locR := tupR_none I.locR
    own := fun x hx ho => let ⟨a, e1, e2, e3, e4⟩ := I.own x hx ho; ⟨a, e1, tupR_none e2, e3, e4⟩ }
theorem Inv.ext (I : Inv c env Fs R m H h) (k : Ext h h') : Inv c env Fs R m H h' :=
  { I with
    hi := I.hi.ext k
    locs := let ⟨mv, hn, hm⟩ := I.locs; ⟨mv, hn.keeps k, fun x p a b => let ⟨v, q, d⟩ := hm x p a b; ⟨v, q, d.keeps k.tup⟩⟩
    celH := fun x a e => let ⟨q, v, r⟩ := I.celH x a e; ⟨q, v, r.keeps k⟩
    cels := fun x hx => let ⟨a, v, e1, e2, e3⟩ := I.cels x hx; ⟨a, v, e1, e2.keeps k, fun p hp => let ⟨w, q, d⟩ := e3 p hp; ⟨w, q, d.keeps k.tup⟩⟩ }
theorem Inv.less (I : Inv c env Fs R m H h) (km : m'.Le m) (kh : H'.Le H) : Inv c env Fs R m' H' h :=
  { I with
    hi := I.hi.less kh
    locH := (by
      cases e : H' env.locals with
      | none => rfl
      | some x => (have := kh _ _ e; rw [I.locH] at this; (first | exact nsF this | exact snF this | obtain rfl := Option.some.inj this | cases this)))
    celH := fun x a e => ⟨(by
      cases e' : H' a with
      | none => rfl
      | some x => (have := kh _ _ e'; rw [(I.celH _ _ e).1] at this; (first | exact nsF this | exact snF this | obtain rfl := Option.some.inj this | cases this))), (I.celH x a e).2⟩
    locs := let ⟨mv, hn, hm⟩ := I.locs; ⟨mv, hn, fun x p a b => hm x p (km _ _ a) b⟩
    cels := fun x hx => let ⟨a, v, e1, e2, e3⟩ := I.cels x hx; ⟨a, v, e1, e2, fun p hp => e3 p (km _ _ hp)⟩ }
theorem Inv.vars (I : Inv c env Fs R m H h) (km : m'.Le m) : Inv c env Fs R m' H h := I.less km (HF.Le.refl _)
open Classical in
/-- all else -/
noncomputable def restR (H : HF) (h : Heap) : RF := fun b => if H b = none then h.get? b else none
theorem restR_of {b : Addr} (e : H b = none) : restR H h b = h.get? b := if_pos e
theorem restR_none {b : Addr} {x : AO} (e : H b = some x) : restR H h b = none := if_neg (by rw [e]; simp)
theorem HI.restR {g : G} (I : HI g Fs R H h) : HI g Fs (Mine.restR H h) H h :=
  { I with
    rest := fun b o e => by
      unfold Mine.restR at e
      split at e
      · exact ⟨o, e, .rfl'⟩
      · (first | exact nsF e | exact snF e | obtain rfl := Option.some.inj e | cases e)
    mine := fun a x e => let ⟨p, _, r⟩ := I.mine a x e; ⟨p, restR_none e, r⟩ }
theorem HI.back {g : G} (I : HI g Fs R H h) (J : HI g Fs (Mine.restR H h) H' h') : HI g Fs R H' h' ∧ TupKeep h h' ∧ ∀ b o, H b = none → h.get? b = some o → H' b = none ∧ ∃ o', h'.get? b = some o' ∧ Kin o o' := by
  have key : ∀ b o, H b = none → h.get? b = some o → H' b = none ∧ ∃ o', h'.get? b = some o' ∧ Kin o o' := fun b o e e' => by
    refine ⟨?_, J.rest b o (by rw [restR_of e]; exact e')⟩
    cases q : H' b with
    | none => rfl
    | some x =>
      obtain ⟨_, q2, _⟩ := J.mine b x q
      rw [restR_of e, e'] at q2; (first | exact nsF q2 | exact snF q2 | cases q2)
  have hR : ∀ b o, R b = some o → H b = none := fun b o e => by
    cases q : H b with
    | none => rfl
    | some x =>
      obtain ⟨_, q2, _⟩ := I.mine b x q
      rw [e] at q2; (first | exact nsF q2 | exact snF q2 | cases q2)
  refine ⟨{ J with rest := fun b o e => ?_, mine := fun a x e => ?_ }, fun a o e q => ?_, key⟩
  · refine opq fun Gq hGq => ?_
    obtain ⟨o', e', k⟩ := I.rest b o e
    obtain ⟨_, o2, e2, k2⟩ := key b o' (hR b o e) e'
    refine hGq ?_
    exact ⟨o2, e2, k.trans k2⟩
  · obtain ⟨p, q, r⟩ := J.mine a x e
    refine ⟨p, ?_, r⟩
    cases z : R a with
    | none => rfl
    | some o =>
      obtain ⟨o', e', _⟩ := I.rest a o z
      rw [restR_of (hR a o z), e'] at q; (first | exact nsF q | exact snF q | cases q)
  · have hn : H a = none := by
      cases z : H a with
      | none => rfl
      | some x =>
        obtain ⟨_, _, o2, e2, h2⟩ := I.mine a x z
        rw [e] at e2; (first | exact nsF e2 | exact snF e2 | cases e2)
        exact absurd q h2.notTup
    obtain ⟨_, o2, e2, k2⟩ := key a o hn e
    rw [e2, k2.of_not fun es ep d => by obtain ⟨_, vs, n, e⟩ := q; rw [d] at e; cases e]
theorem Inv.back (I : Inv c env Fs R m H h) (J : HI c.g Fs (Mine.restR H h) H' h') : Inv c env Fs R m H' h' ∧ TupKeep h h' := by
  obtain ⟨k1, k2, k3⟩ := I.hi.back J
  refine ⟨?_, k2⟩
  obtain ⟨mv, hn, hm⟩ := I.locs
  have lk : ∀ a, H a = none → ∀ o, h.get? a = some o → ∃ o', h'.get? a = some o' ∧ Kin o o' := fun a ha o e => (k3 a o ha e).2
  exact {
    hi := k1
    locR := I.locR
    locB := I.locB
    locH := by
      refine opq fun Gq hGq => ?_
      obtain ⟨o, _, _, ho, _⟩ := id hn
      refine hGq ?_
      exact (k3 _ _ I.locH ho).1
    locs := ⟨mv, Heap.Ns.lk hn (lk _ I.locH), fun x p a b => let ⟨v, q, d⟩ := hm x p a b; ⟨v, q, d.keeps k2⟩⟩
    cels := fun x hx => let ⟨a, v, e1, e2, e3⟩ := I.cels x hx; ⟨a, v, e1, isCell_lk e2 (lk _ (I.celH x a e1).1), fun p hp => let ⟨w, q, d⟩ := e3 p hp; ⟨w, q, d.keeps k2⟩⟩
    celH := fun x a e => by
      refine opq fun Gq hGq => ?_
      obtain ⟨q, v, r⟩ := I.celH x a e
      obtain ⟨o, ho, _⟩ := id r
      refine hGq ?_
      exact ⟨(k3 a o q ho).1, v, isCell_lk r (lk _ q)⟩
    own := I.own }
theorem Inv.alloc {x : AO} {o : Obj} (I : Inv c env Fs R m H h) (hx : x.Is h o) (hf : o.isFreed = false) : Inv c env Fs R m (H.set h.objs.size x) (h.push o) := by
  have J := I.ext (Ext.push h o)
  refine { J with hi := I.hi.alloc hx hf, locH := ?_, celH := fun y a e => ?_ }
  · obtain ⟨mv, hn, _⟩ := I.locs
    rw [HF.set_other (Nat.ne_of_lt hn.lt)]; exact I.locH
  · obtain ⟨q, v, r⟩ := I.celH y a e
    refine ⟨?_, (J.celH y a e).2⟩
    rw [HF.set_other (Nat.ne_of_lt r.lt)]; exact q
theorem Inv.push {o : Obj} (I : Inv c env Fs R m H h) : Inv c env Fs R m H (h.push o) := I.ext (Ext.push h o)
theorem Inv.upd {a : Addr} {x y : AO} {o' : Obj} (I : Inv c env Fs R m H h) (ha : H a = some x) (hs : Heap.SameBut a h h') (ho : h'.get? a = some o') (hy : y.Is h o') :
    Inv c env Fs R m (H.set a y) h' := by
  have tk := I.hi.tupKeep ha hs
  have hne : ∀ b, H b = none → b ≠ a := fun b e q => by rw [q, ha] at e; (first | exact nsF e | exact snF e | cases e)
  exact {
    hi := I.hi.upd ha hs ho hy
    locR := I.locR
    locB := I.locB
    locH := by rw [HF.set_other (hne _ I.locH)]; exact I.locH
    locs := let ⟨mv, hn, hm⟩ := I.locs; ⟨mv, hn.sameBut hs (hne _ I.locH), fun x p a b => let ⟨v, q, d⟩ := hm x p a b; ⟨v, q, d.keeps tk⟩⟩
    cels := fun x hx => let ⟨d, v, e1, e2, e3⟩ := I.cels x hx; ⟨d, v, e1, e2.sameBut hs (hne _ (I.celH x d e1).1), fun p hp => let ⟨w, q, d⟩ := e3 p hp; ⟨w, q, d.keeps tk⟩⟩
    celH := fun x d e => let ⟨q, v, r⟩ := I.celH x d e; ⟨by rw [HF.set_other (hne _ q)]; exact q, v, r.sameBut hs (hne _ q)⟩
    own := I.own }
end
/-- what a step, a value, a test, a binding leaves -/
inductive MR (c : Cx) (env : Env) (Fs : List Addr) (R : RF) (s : Shared) {α β : Type} (Rel : Heap → β → α → Prop) (Q : β → Vars → HF → Prop) (a : α) (s' : Shared) : Prop
  | mk (b : β) (m' : Vars) (H' : HF) (q : Q b m' H') (d : Rel s'.heap b a) (I : Inv c env Fs R m' H' s'.heap) (e : Same s s')
inductive ER (c : Cx) (env : Env) (Fs : List Addr) (R : RF) (m : Vars) (s : Shared) {α β : Type} (Rel : Heap → β → α → Prop) (Q : β → HF → Prop) (a : α) (s' : Shared) : Prop
  | mk (b : β) (H' : HF) (q : Q b H') (d : Rel s'.heap b a) (I : Inv c env Fs R m H' s'.heap) (e : Same s s')
inductive TR (c : Cx) (env : Env) (Fs : List Addr) (R : RF) (m : Vars) (s : Shared) {α : Type} (Q : α → HF → Prop) (a : α) (s' : Shared) : Prop
  | mk (H' : HF) (q : Q a H') (I : Inv c env Fs R m H' s'.heap) (e : Same s s')
inductive AK (c : Cx) (env : Env) (Fs : List Addr) (R : RF) (s : Shared) (Q : Vars → HF → Prop) (a : Unit) (s' : Shared) : Prop
  | mk (m' : Vars) (H' : HF) (q : Q m' H') (I : Inv c env Fs R m' H' s'.heap) (e : Same s s') (k : TupKeep s.heap s'.heap)
/-- a step within a frame -/
@[irreducible] noncomputable def EvM (c : Cx) {α β : Type} (t : Env → Sem α) (m : Vars) (H : HF) (Rel : Heap → β → α → Prop) (Q : β → Vars → HF → Prop) : Prop :=
  ∀ (A : Around) (env : Env) (Fs : List Addr) (R : RF) (s : Shared) (E : Value → Shared → Prop), Room c.n Fs A → EnvOK c A env → Inv c env Fs R m H s.heap →
    wpAny (model c.g.prog c.g.w) A (t env) (MR c env Fs R s Rel Q) E s
section
variable {c : Cx} {α β γ δ : Type} {t : Env → Sem α} {m : Vars} {H : HF} {Rel : Heap → β → α → Prop} {Q Q' : β → Vars → HF → Prop}
theorem EvM.mk (h : ∀ (A : Around) (env : Env) (Fs : List Addr) (R : RF) (s : Shared) (E : Value → Shared → Prop), Room c.n Fs A → EnvOK c A env → Inv c env Fs R m H s.heap →
    wpAny (model c.g.prog c.g.w) A (t env) (MR c env Fs R s Rel Q) E s) : EvM c t m H Rel Q := by
  unfold EvM; exact h
theorem EvM.bd (h : EvM c t m H Rel Q) {A : Around} {env : Env} {Fs : List Addr} {R : RF} {s : Shared} {E : Value → Shared → Prop} {W : α → Shared → Prop} (r : Room c.n Fs A) (eo : EnvOK c A env) (I : Inv c env Fs R m H s.heap)
    (k : ∀ a s' b m' H', Q b m' H' → Rel s'.heap b a → Inv c env Fs R m' H' s'.heap → Same s s' → TupKeep s.heap s'.heap → W a s') : wpAny (model c.g.prog c.g.w) A (t env) W E s := by
  unfold EvM at h
  exact wpAny_mono (h A env Fs (tupR R s.heap) s E r eo I.tupR) (fun a s' x => x.casesOn fun b m' H' h1 h2 h3 h4 => k a s' b m' H' h1 h2 h3.untup h4 (tupR_keep I.hi.rest h3.hi.rest)) fun _ _ x => x
theorem EvM.mono (h : EvM c t m H Rel Q) (k : ∀ b m' H', Q b m' H' → Q' b m' H') : EvM c t m H Rel Q' := by
  exact EvM.mk fun A env Fs R s E r eo I => h.bd r eo I fun a s' b m' H' h1 h2 h3 h4 _ => ⟨b, m', H', k _ _ _ h1, h2, h3, h4⟩
theorem EvM.weak {m' : Vars} {H' : HF} (km : m'.Le m) (k : H'.Le H) (h : EvM c t m' H' Rel Q) : EvM c t m H Rel Q :=
  EvM.mk fun A env Fs R s E r eo I => h.bd r eo (I.less km k) fun a s' b m' H' h1 h2 h3 h4 _ => ⟨b, m', H', h1, h2, h3, h4⟩
end
theorem Op.bdI {c : Cx} {n : Nat} {α β : Type} {P : Heap → Prop} {t : Sem α} {m : Vars} {H : HF} {Rel : Heap → β → α → Prop} {Q : β → HF → Prop} (h : Op c.g n P t H Rel Q) {A : Around} {env : Env} {Fs : List Addr} {R : RF} {s : Shared} {E : Value → Shared → Prop} {W : α → Shared → Prop}
    (r : Room n Fs A) (I : Inv c env Fs R m H s.heap) (p : P s.heap) (k : ∀ a s' b H', Q b H' → Rel s'.heap b a → Inv c env Fs R m H' s'.heap → Same s s' → TupKeep s.heap s'.heap → W a s') :
    wpAny (model c.g.prog c.g.w) A t W E s := by
  unfold Op at h
  refine wpAny_mono (h A Fs (restR H s.heap) s E r I.hi.restR p) (fun a s' x => x.casesOn fun b H' h1 h2 h3 h4 => ?_) fun _ _ x => x
  obtain ⟨J, tk⟩ := I.back h3
  exact k a s' b H' h1 h2 J h4 tk
inductive Fl where
  | next | brk | cont | ret (v : PV)
noncomputable def FlRel (h : Heap) : Fl → Flow → Prop
  | .next, f => f = .next
  | .brk, f => f = .brk
  | .cont, f => f = .cont
  | .ret p, f => ∃ v, f = .ret v ∧ Den h p v
noncomputable def EvE (c : Cx) (e : Expr) (m : Vars) (H : HF) (Q : PV → HF → Prop) : Prop := EvM c (eval e) m H Den (fun p m' H' => m' = m ∧ Q p H')
noncomputable def EvL (c : Cx) (pos : Pos) (es : List Expr) (m : Vars) (H : HF) (Q : List PV → HF → Prop) : Prop := EvM c (fun env => spliced (backTo pos (starEach es env))) m H DenL (fun p m' H' => m' = m ∧ Q p H')
noncomputable def EvT (c : Cx) (e : Expr) (m : Vars) (H : HF) (Q : Bool → HF → Prop) : Prop := EvM c (fun env => isTrue e env (eval e env)) m H Eqs (fun p m' H' => m' = m ∧ Q p H')
noncomputable def EvTs (c : Cx) (op : BoolOp) (es : List Expr) (m : Vars) (H : HF) (Q : Bool → HF → Prop) : Prop := EvM c (fun env => allTrue op es env) m H Eqs (fun p m' H' => m' = m ∧ Q p H')
noncomputable def EvA (c : Cx) (e : Expr) (v : PV) (m : Vars) (H : HF) (Q : Vars → HF → Prop) : Prop :=
  ∀ (A : Around) (env : Env) (Fs : List Addr) (R : RF) (s : Shared) (E : Value → Shared → Prop) (w : Value), Room c.n Fs A → EnvOK c A env → Inv c env Fs R m H s.heap → Den s.heap v w →
    wpAny (model c.g.prog c.g.w) A (assign e env w) (AK c env Fs R s Q) E s
noncomputable def EvS (c : Cx) (e : Stmt) (m : Vars) (H : HF) (Q : Fl → Vars → HF → Prop) : Prop := EvM c (exec e) m H FlRel Q
noncomputable def EvSs (c : Cx) (e : List Stmt) (m : Vars) (H : HF) (Q : Fl → Vars → HF → Prop) : Prop := EvM c (execs e) m H FlRel Q
theorem EvE.mono {c e m H Q Q'} (h : EvE c e m H Q) (k : ∀ p H', Q p H' → Q' p H') : EvE c e m H Q' := EvM.mono h fun _ _ _ ⟨a, b⟩ => ⟨a, k _ _ b⟩
theorem EvT.mono {c e m H Q Q'} (h : EvT c e m H Q) (k : ∀ p H', Q p H' → Q' p H') : EvT c e m H Q' := EvM.mono h fun _ _ _ ⟨a, b⟩ => ⟨a, k _ _ b⟩
theorem EvS.mono {c e m H Q Q'} (h : EvS c e m H Q) (k : ∀ p m' H', Q p m' H' → Q' p m' H') : EvS c e m H Q' := EvM.mono h k
section
variable {c : Cx} {A : Around} {env : Env} {Fs : List Addr} {R : RF} {m : Vars} {H : HF} {s : Shared} {E : Value → Shared → Prop}
theorem EvM.bdF {α β : Type} {t : Env → Sem α} {Rel : Heap → β → α → Prop} {Q : β → HF → Prop} {W : α → Shared → Prop} (h : EvM c t m H Rel (fun p m' H' => m' = m ∧ Q p H')) (r : Room c.n Fs A) (eo : EnvOK c A env) (I : Inv c env Fs R m H s.heap)
    (k : ∀ a s' b H', Q b H' → Rel s'.heap b a → Inv c env Fs R m H' s'.heap → Same s s' → TupKeep s.heap s'.heap → W a s') : wpAny (model c.g.prog c.g.w) A (t env) W E s :=
  EvM.bd h r eo I fun a s' b m' H' q d J e tk => by obtain ⟨rfl, q⟩ := q; exact k a s' b H' q d J e tk
theorem EvM.mkF {α β : Type} {t : Env → Sem α} {Rel : Heap → β → α → Prop} {Q : β → HF → Prop} (h : ∀ (A : Around) (env : Env) (Fs : List Addr) (R : RF) (s : Shared) (E : Value → Shared → Prop), Room c.n Fs A → EnvOK c A env → Inv c env Fs R m H s.heap →
    wpAny (model c.g.prog c.g.w) A (t env) (ER c env Fs R m s Rel Q) E s) : EvM c t m H Rel (fun p m' H' => m' = m ∧ Q p H') :=
  EvM.mk fun A env Fs R s E r eo I => wpAny_mono (h A env Fs R s E r eo I) (fun a s' x => x.casesOn fun b H' h1 h2 h3 h4 => ⟨b, m, H', ⟨rfl, h1⟩, h2, h3, h4⟩) fun _ _ x => x
theorem EvE.bd {e : Expr} {Q : PV → HF → Prop} {W} (h : EvE c e m H Q) (r : Room c.n Fs A) (eo : EnvOK c A env) (I : Inv c env Fs R m H s.heap)
    (k : ∀ a s' b H', Q b H' → Den s'.heap b a → Inv c env Fs R m H' s'.heap → Same s s' → TupKeep s.heap s'.heap → W a s') : wpAny (model c.g.prog c.g.w) A (eval e env) W E s := EvM.bdF h r eo I k
theorem EvE.mk {e : Expr} {Q : PV → HF → Prop} (h : ∀ (A : Around) (env : Env) (Fs : List Addr) (R : RF) (s : Shared) (E : Value → Shared → Prop), Room c.n Fs A → EnvOK c A env → Inv c env Fs R m H s.heap →
    wpAny (model c.g.prog c.g.w) A (eval e env) (ER c env Fs R m s Den Q) E s) : EvE c e m H Q := EvM.mkF h
theorem EvL.bd {pos : Pos} {e : List Expr} {Q : List PV → HF → Prop} {W} (h : EvL c pos e m H Q) (r : Room c.n Fs A) (eo : EnvOK c A env) (I : Inv c env Fs R m H s.heap)
    (k : ∀ a s' b H', Q b H' → DenL s'.heap b a → Inv c env Fs R m H' s'.heap → Same s s' → TupKeep s.heap s'.heap → W a s') : wpAny (model c.g.prog c.g.w) A (spliced (backTo pos (starEach e env))) W E s := EvM.bdF h r eo I k
theorem EvL.mk {pos : Pos} {e : List Expr} {Q : List PV → HF → Prop} (h : ∀ (A : Around) (env : Env) (Fs : List Addr) (R : RF) (s : Shared) (E : Value → Shared → Prop), Room c.n Fs A → EnvOK c A env → Inv c env Fs R m H s.heap →
    wpAny (model c.g.prog c.g.w) A (spliced (backTo pos (starEach e env))) (ER c env Fs R m s DenL Q) E s) : EvL c pos e m H Q := EvM.mkF h
theorem EvT.bd {e : Expr} {Q : Bool → HF → Prop} {W} (h : EvT c e m H Q) (r : Room c.n Fs A) (eo : EnvOK c A env) (I : Inv c env Fs R m H s.heap)
    (k : ∀ a s' H', Q a H' → Inv c env Fs R m H' s'.heap → Same s s' → TupKeep s.heap s'.heap → W a s') : wpAny (model c.g.prog c.g.w) A (isTrue e env (eval e env)) W E s :=
  EvM.bdF h r eo I fun a s' b H' q d J e tk => by cases d; exact k _ s' H' q J e tk
theorem EvT.mk {e : Expr} {Q : Bool → HF → Prop} (h : ∀ (A : Around) (env : Env) (Fs : List Addr) (R : RF) (s : Shared) (E : Value → Shared → Prop), Room c.n Fs A → EnvOK c A env → Inv c env Fs R m H s.heap →
    wpAny (model c.g.prog c.g.w) A (isTrue e env (eval e env)) (TR c env Fs R m s Q) E s) : EvT c e m H Q :=
  EvM.mkF fun A env Fs R s E r eo I => wpAny_mono (h A env Fs R s E r eo I) (fun a s' x => x.casesOn fun H' h1 h3 h4 => ⟨a, H', h1, rfl, h3, h4⟩) fun _ _ x => x
theorem EvTs.bd {op : BoolOp} {e : List Expr} {Q : Bool → HF → Prop} {W} (h : EvTs c op e m H Q) (r : Room c.n Fs A) (eo : EnvOK c A env) (I : Inv c env Fs R m H s.heap)
    (k : ∀ a s' H', Q a H' → Inv c env Fs R m H' s'.heap → Same s s' → TupKeep s.heap s'.heap → W a s') : wpAny (model c.g.prog c.g.w) A (allTrue op e env) W E s :=
  EvM.bdF h r eo I fun a s' b H' q d J e tk => by cases d; exact k _ s' H' q J e tk
theorem EvTs.mk {op : BoolOp} {e : List Expr} {Q : Bool → HF → Prop} (h : ∀ (A : Around) (env : Env) (Fs : List Addr) (R : RF) (s : Shared) (E : Value → Shared → Prop), Room c.n Fs A → EnvOK c A env → Inv c env Fs R m H s.heap →
    wpAny (model c.g.prog c.g.w) A (allTrue op e env) (TR c env Fs R m s Q) E s) : EvTs c op e m H Q :=
  EvM.mkF fun A env Fs R s E r eo I => wpAny_mono (h A env Fs R s E r eo I) (fun a s' x => x.casesOn fun H' h1 h3 h4 => ⟨a, H', h1, rfl, h3, h4⟩) fun _ _ x => x
theorem AK.bd {t : Sem Unit} {Q : Vars → HF → Prop} {W : Unit → Shared → Prop} (h : wpAny (model c.g.prog c.g.w) A t (AK c env Fs R s Q) E s)
    (k : ∀ a s' m' H', Q m' H' → Inv c env Fs R m' H' s'.heap → Same s s' → TupKeep s.heap s'.heap → W a s') : wpAny (model c.g.prog c.g.w) A t W E s :=
  wpAny_mono h (fun a s' x => x.casesOn fun m' H' q I e tk => k a s' m' H' q I e tk) fun _ _ x => x
end
end Mine
end
section
open PySem PySem.Calls PyProof.Rows
namespace Mine
noncomputable def BinO (g : G) (n : Nat) (op : Operator) (a b : PV) (H : HF) (Q : PV → HF → Prop) : Prop := ∀ va vb, Op g n (fun h => Den h a va ∧ Den h b vb) (binaryOp op va vb) H Den Q
noncomputable def IBinO (g : G) (n : Nat) (op : Operator) (a b : PV) (H : HF) (Q : PV → HF → Prop) : Prop := ∀ va vb, Op g n (fun h => Den h a va ∧ Den h b vb) (inplaceOp op va vb) H Den Q
noncomputable def CmpO (g : G) (n : Nat) (op : CmpOp) (a b : PV) (H : HF) (Q : PV → HF → Prop) : Prop := ∀ va vb, Op g n (fun h => Den h a va ∧ Den h b vb) (compareOp op va vb) H Den Q
noncomputable def TruO (g : G) (n : Nat) (a : PV) (H : HF) (Q : Bool → HF → Prop) : Prop := ∀ va, Op g n (fun h => Den h a va) (truthy va) H Eqs Q
noncomputable def SubO (g : G) (n : Nat) (value slice : Expr) (o i : PV) (H : HF) (Q : PV → HF → Prop) : Prop := ∀ vo vi, Op g n (fun h => Den h o vo ∧ Den h i vi) (subscriptTail value slice vo vi) H Den Q
noncomputable def SliO (g : G) (n : Nat) (value slice : Expr) (o l u st : PV) (H : HF) (Q : PV → HF → Prop) : Prop :=
  ∀ vo vl vu vs i, Op g n (fun h => Den h o vo ∧ Den h l vl ∧ Den h u vu ∧ Den h st vs ∧ h.get? i = some { cls := .type "slice", data := .fields #[vl, vu, vs] }) (subscriptTail value slice vo (.ref i)) H Den Q
noncomputable def SetO (g : G) (n : Nat) (o i v : PV) (H : HF) (Q : HF → Prop) : Prop := ∀ vo vi vv, Op g n (fun h => Den h o vo ∧ Den h i vi ∧ Den h v vv) (setItem vo vi vv) H Eqs (fun (_ : Unit) H' => Q H')
noncomputable def Calls (g : G) (n : Nat) (f : PV) (vs : List PV) (kw : List (Str × PV)) (H : HF) (Q : PV → HF → Prop) : Prop :=
  ∀ fv vvs kvs, Op g n (fun h => Den h f fv ∧ DenL h vs vvs ∧ DenL h (kw.map (·.2)) kvs) (call fv vvs ((kw.map (·.1)).zip kvs)) H Den Q
noncomputable def varKind : Option NameKind → Bool
  | some .local => true
  | some .cell => true
  | some .free => true
  | _ => false
section
variable {c : Cx} {m : Vars} {H : HF} {Q : PV → HF → Prop}
theorem EvE_int {i : Int} {k : Nat} {pos : Pos} (h : Q (.int i) H) : EvE c (.Constant (.int i) k pos) m H Q :=
  EvE.mk fun A env Fs R s E r eo I => wpAny_Constant_int ⟨.int i, H, h, ⟨_, rfl⟩, I, Same.toks⟩
theorem EvE_none {k : Nat} {pos : Pos} (h : Q .none H) : EvE c (.Constant .none k pos) m H Q :=
  EvE.mk fun A env Fs R s E r eo I => wpAny_Constant_none ⟨.none, H, h, rfl, I, Same.rfl'⟩
theorem EvE_bool {b : Bool} {k : Nat} {pos : Pos} (h : Q (.bool b) H) : EvE c (.Constant (.bool b) k pos) m H Q :=
  EvE.mk fun A env Fs R s E r eo I => wpAny_Constant_bool ⟨.bool b, H, h, rfl, I, Same.rfl'⟩
theorem EvE_var {x : Str} {pos : Pos} {v : PV} (hk : varKind (kindIn c x) = true) (hv : m.lookup x = some v) (hd : (x == ("__debug__" : Str) || x == ("__classdict__" : Str)) = false) (h : Q v H) : EvE c (.Name x pos) m H Q := by
  refine EvE.mk fun A env Fs R s E r eo I => ?_
  obtain ⟨hd1, hd2⟩ := Bool.or_eq_false_iff.mp hd
  refine wpAny_Name ?_ hd1
  have hkf : env.scope.kind = .function := by rw [eo.scope]; exact eo.kind
  have hkx : env.kindOf x = kindIn c x := by unfold Env.kindOf kindIn; rw [eo.scope]
  cases e : kindIn c x with
  | none => rw [e] at hk; (first | exact nsF hk | exact snF hk | cases hk)
  | some k =>
    rw [e] at hkx
    cases k with
    | «local» =>
      refine opq fun Gq hGq => ?_
      obtain ⟨mv, hn, hm⟩ := I.locs
      obtain ⟨w, hw, d⟩ := hm x v hv e
      refine hGq ?_
      exact wpAny_loadName_local hkf hkx hn hw ⟨v, H, h, d, I, Same.rfl'⟩
    | cell =>
      refine opq fun Gq hGq => ?_
      obtain ⟨a, v', h1, h2, h3⟩ := I.cels x (.inl e)
      obtain ⟨w, rfl, d⟩ := h3 v hv
      refine hGq ?_
      exact wpAny_loadName_cell hkf hkx h1 h2 ⟨v, H, h, d, I, Same.rfl'⟩
    | free =>
      refine opq fun Gq hGq => ?_
      obtain ⟨a, v', h1, h2, h3⟩ := I.cels x (.inr e)
      obtain ⟨w, rfl, d⟩ := h3 v hv
      refine hGq ?_
      exact wpAny_loadName_free hkf hkx h1 h2 ⟨v, H, h, d, I, Same.rfl'⟩ hd2
    | _ => rw [e] at hk; (first | exact nsF hk | exact snF hk | cases hk)
theorem EvE_glob {x : Str} {pos : Pos} {v : PV} (hk : kindIn c x = some .globalImplicit) (hv : c.g.glob.lookup x = some v) (hd : (x == ("__debug__" : Str)) = false) (h : Q v H) : EvE c (.Name x pos) m H Q := by
  refine EvE.mk fun A env Fs R s E r eo I => ?_
  have hkf : env.scope.kind = .function := by rw [eo.scope]; exact eo.kind
  have hkx : env.kindOf x = some .globalImplicit := by unfold Env.kindOf; rw [eo.scope]; exact hk
  refine Name_function_global hkf hkx ?_ hd
  refine opq fun Gq hGq => ?_
  obtain ⟨mg, mb, n1, n2, hn⟩ := c.g.names
  obtain ⟨w, d, hw⟩ := hn x v hv
  refine hGq ?_
  have d' : Den s.heap v w := d.keeps fun a o e _ => I.hi.base a o e
  rcases hw with hw | ⟨hw, hw'⟩
  · exact loadGlobal_global (by rw [eo.globals]; exact n1.keeps I.hi.base) hw ⟨v, H, h, d', I, Same.rfl'⟩
  · exact loadGlobal_builtin (by rw [eo.globals]; exact n1.keeps I.hi.base) hw (by rw [eo.builtins]; exact n2.keeps I.hi.base) hw' ⟨v, H, h, d', I, Same.rfl'⟩
theorem EvE_BinOp {l : Expr} {op : Operator} {r : Expr} {pos : Pos} (h : EvE c l m H fun a H1 => EvE c r m H1 fun b H2 => BinO c.g c.n op a b H2 Q) : EvE c (.BinOp l op r pos) m H Q := by
  refine EvE.mk fun A env Fs R s E r eo I => wpAny_BinOp ?_
  refine EvE.bd h r eo I fun a s1 p1 H1 q1 d1 I1 e1 k1 => ?_
  refine EvE.bd q1 r eo I1 fun b s2 p2 H2 q2 d2 I2 e2 k2 => ?_
  refine Op.bdI (q2 a b) r I2 ⟨d1.keeps k2, d2⟩ fun v s3 p3 H3 q3 d3 I3 e3 k3 => ?_
  exact ⟨p3, H3, q3, d3, I3, (e1.trans e2).trans e3⟩
theorem EvE_IfExp {t b o : Expr} {pos : Pos} (h : EvT c t m H fun t H1 => (t = true → EvE c b m H1 Q) ∧ (t = false → EvE c o m H1 Q)) : EvE c (.IfExp t b o pos) m H Q := by
  refine EvE.mk fun A env Fs R s E r eo I => wpAny_IfExp ?_
  refine EvT.bd h r eo I fun a s1 H1 q1 I1 e1 k1 => ?_
  cases a with
  | true => exact EvE.bd (q1.1 rfl) r eo I1 fun v s3 p3 H3 q3 d3 I3 e3 k3 => ⟨p3, H3, q3, d3, I3, e1.trans e3⟩
  | false => exact EvE.bd (q1.2 rfl) r eo I1 fun v s3 p3 H3 q3 d3 I3 e3 k3 => ⟨p3, H3, q3, d3, I3, e1.trans e3⟩
theorem EvE_And {x y : Expr} {pos : Pos} (h : EvE c x m H fun v H1 => TruO c.g c.n v H1 fun b H2 => (b = true → EvE c y m H2 Q) ∧ (b = false → Q v H2)) : EvE c (.BoolOp .And [x, y] pos) m H Q := by
  refine EvE.mk fun A env Fs R s E r eo I => wpAny_And2 ?_
  refine EvE.bd h r eo I fun a s1 p1 H1 q1 d1 I1 e1 k1 => ?_
  refine Op.bdI (q1 a) r I1 d1 fun t s2 b H2 q2 eq2 I2 e2 k2 => ?_
  cases eq2
  cases t with
  | true => exact EvE.bd (q2.1 rfl) r eo I2 fun v s3 p3 H3 q3 d3 I3 e3 k3 => ⟨p3, H3, q3, d3, I3, (e1.trans e2).trans e3⟩
  | false => exact ⟨p1, H2, q2.2 rfl, d1.keeps k2, I2, e1.trans e2⟩
theorem EvE_Compare {l : Expr} {op : CmpOp} {r : Expr} {pos : Pos} (hm : behindInMarks op r = false) (h : EvE c l m H fun a H1 => EvE c r m H1 fun b H2 => CmpO c.g c.n op a b H2 Q) : EvE c (.Compare l [op] [r] pos) m H Q := by
  refine EvE.mk fun A env Fs R s E r eo I => wpAny_Compare1 ?_ hm
  refine EvE.bd h r eo I fun a s1 p1 H1 q1 d1 I1 e1 k1 => ?_
  refine EvE.bd q1 r eo I1 fun b s2 p2 H2 q2 d2 I2 e2 k2 => ?_
  refine Op.bdI (q2 a b) r I2 ⟨d1.keeps k2, d2⟩ fun v s3 p3 H3 q3 d3 I3 e3 k3 => ?_
  exact ⟨p3, H3, q3, d3, I3, (e1.trans e2).trans e3⟩
theorem EvL_nil {pos : Pos} {Q : List PV → HF → Prop} (h : Q [] H) : EvL c pos [] m H Q :=
  EvL.mk fun A env Fs R s E r eo I => wpAny_items_nil ⟨[], H, h, rfl, I, Same.rfl'⟩
noncomputable def isStar : Expr → Bool
  | .Starred .. => true
  | _ => false
theorem star_of {e : Expr} (h : isStar e = false) (rest : List Expr) (env : Env) : starEach (e :: rest) env = (false, eval e env) :: starEach rest env := by
  cases e <;> first | rfl | cases h
theorem EvL_cons {pos : Pos} {e : Expr} {rest : List Expr} {Q : List PV → HF → Prop} (hs : isStar e = false) (h : EvE c e m H fun v H1 => EvL c pos rest m H1 fun vs H2 => Q (v :: vs) H2) : EvL c pos (e :: rest) m H Q := by
  refine EvL.mk fun A env Fs R s E r eo I => wpAny_items_cons ?_ (star_of hs rest env)
  refine EvE.bd h r eo I fun a s1 p1 H1 q1 d1 I1 e1 k1 => ?_
  refine EvL.bd q1 r eo I1 fun b s2 p2 H2 q2 d2 I2 e2 k2 => ?_
  exact ⟨p1 :: p2, H2, q2, ⟨a, b, rfl, d1.keeps k2, d2⟩, I2, e1.trans e2⟩
theorem sizeL (n : Nat) (h : n ≤ 100000) : n ≤ sizeLine := Nat.le_trans h (by rw [sizeLine_eq]; omega)
theorem EvE_Tuple {es : List Expr} {k : Nat} {pos : Pos} (h : EvL c pos es m H fun vs H1 => vs.length ≤ 100000 ∧ Q (.tup vs) H1) : EvE c (.Tuple es k pos) m H Q := by
  refine EvE.mk fun A env Fs R s E r eo I => wpAny_Tuple ?_
  refine EvL.bd h r eo I fun a s1 p1 H1 q1 d1 I1 e1 k1 => ?_
  refine ⟨by rw [d1.length]; exact sizeL _ q1.1, .tup p1, H1, q1.2, ?_, I1.push, e1.trans Same.heap⟩
  exact ⟨_, _, rfl, Heap.get?_push_size _ rfl, DenL.keeps (Ext.push _ _).tup (by simpa using d1)⟩
theorem EvE_List {es : List Expr} {pos : Pos} (h : EvL c pos es m H fun vs H1 => vs.length ≤ 100000 ∧ ∀ a, H1 a = none → Q (.ref a) (H1.set a (.list vs))) : EvE c (.List es pos) m H Q := by
  refine EvE.mk fun A env Fs R s E r eo I => wpAny_List ?_
  refine EvL.bd h r eo I fun a s1 p1 H1 q1 d1 I1 e1 k1 => ?_
  refine ⟨by rw [d1.length]; exact sizeL _ q1.1, .ref s1.heap.objs.size, _, q1.2 _ I1.hi.sizeH, rfl, I1.alloc (x := .list p1) ⟨_, _, rfl, by simpa using d1⟩ rfl, e1.trans Same.heap⟩
theorem EvE_Subscript {v i : Expr} {pos : Pos} (h : EvE c v m H fun o H1 => EvE c i m H1 fun k H2 => SubO c.g c.n v i o k H2 Q) : EvE c (.Subscript v i pos) m H Q := by
  refine EvE.mk fun A env Fs R s E r eo I => Subscript_ ?_
  refine EvE.bd h r eo I fun a s1 p1 H1 q1 d1 I1 e1 k1 => ?_
  refine EvE.bd q1 r eo I1 fun b s2 p2 H2 q2 d2 I2 e2 k2 => ?_
  refine Op.bdI (q2 a b) r I2 ⟨d1.keeps k2, d2⟩ fun v s3 p3 H3 q3 d3 I3 e3 k3 => ?_
  exact ⟨p3, H3, q3, d3, I3, (e1.trans e2).trans e3⟩
noncomputable def EvO (c : Cx) (e : Option Expr) (m : Vars) (H : HF) (Q : PV → HF → Prop) : Prop := EvM c (fun env => valueOrNone (evalOpt e env)) m H Den (fun p m' H' => m' = m ∧ Q p H')
theorem EvO_none (h : Q .none H) : EvO c none m H Q :=
  EvM.mk fun A env Fs R s E r eo I => wpAny_pure ⟨.none, m, H, ⟨rfl, h⟩, rfl, I, Same.rfl'⟩
theorem EvO_some {e : Expr} (h : EvE c e m H Q) : EvO c (some e) m H Q :=
  EvM.mk fun A env Fs R s E r eo I => EvE.bd h r eo I fun a s1 p1 H1 q1 d1 I1 e1 k1 => ⟨p1, m, H1, ⟨rfl, q1⟩, d1, I1, e1⟩
theorem EvO.bd {e : Option Expr} {Q : PV → HF → Prop} {A : Around} {env : Env} {Fs : List Addr} {R : RF} {s : Shared} {E : Value → Shared → Prop} {W} (h : EvO c e m H Q) (r : Room c.n Fs A) (eo : EnvOK c A env) (I : Inv c env Fs R m H s.heap)
    (k : ∀ a s' b H', Q b H' → Den s'.heap b a → Inv c env Fs R m H' s'.heap → Same s s' → TupKeep s.heap s'.heap → W a s') : wpAny (model c.g.prog c.g.w) A (valueOrNone (evalOpt e env)) W E s := EvM.bdF h r eo I k
theorem EvE_Slice {v : Expr} {l u st : Option Expr} {p2 pos : Pos} (h : EvE c v m H fun o H1 => EvO c l m H1 fun lv H2 => EvO c u m H2 fun uv H3 => EvO c st m H3 fun sv H4 => SliO c.g c.n v (.Slice l u st p2) o lv uv sv H4 Q) :
    EvE c (.Subscript v (.Slice l u st p2) pos) m H Q := by
  refine EvE.mk fun A env Fs R s E r eo I => ?_
  rw [arm_eval_Subscript, arm_eval_Slice]
  refine wpAny_bind (EvE.bd h r eo I fun a s1 p1 H1 q1 d1 I1 e1 k1 => ?_)
  refine wpAny_bind (wpAny_holding (wpAny_bind ?_))
  refine EvO.bd q1 r eo I1 fun b s2 p2' H2 q2 d2 I2 e2 k2 => ?_
  refine wpAny_bind (wpAny_holding ?_)
  refine EvO.bd q2 r eo I2 fun b2 s3 p3 H3 q3 d3 I3 e3 k3 => ?_
  refine wpAny_bind (wpAny_holding ?_)
  refine EvO.bd q3 r eo I3 fun b3 s4 p4 H4 q4 d4 I4 e4 k4 => ?_
  unfold newFields
  refine wpAny_newObj_type ?_
  refine wpAny_bind (wpAny_standAt ?_)
  have kx := (Ext.push s4.heap { cls := .type "slice", data := .fields [b, b2, b3].toArray }).tup
  refine Op.bdI (s := { s4 with heap := s4.heap.push { cls := .type "slice", data := .fields [b, b2, b3].toArray } }) (q4 a b b2 b3 s4.heap.objs.size) (E := E) r I4.push
    ⟨(((d1.keeps k2).keeps k3).keeps k4).keeps kx, ((d2.keeps k3).keeps k4).keeps kx, (d3.keeps k4).keeps kx, d4.keeps kx, Heap.get?_push_size _ rfl⟩ fun v s6 p3 H3 q3 d3 I3 e5 k3 => ?_
  exact ⟨p3, H3, q3, d3, I3, (((e1.trans e2).trans e3).trans e4).trans (Same.heap.trans e5)⟩
end
end Mine
end
section
open PySem PySem.Calls PyProof.Rows
namespace Mine
section
variable {c : Cx} {m : Vars} {H : HF}
noncomputable def plainTest : Expr → Bool
  | .UnaryOp .Not _ _ => false
  | .BoolOp .. => false
  | .IfExp .. => false
  | .Compare .. => false
  | _ => true
theorem isTrue_plainTest {e : Expr} (h : plainTest e = true) (env : Env) (whole : Sem Value) : isTrue e env whole = (do let v ← whole; standAt e.pos; holding [v] (truthy v)) := by
  cases e with
  | UnaryOp op x p => cases op <;> first | rfl | exact Bool.noConfusion (h : false = true)
  | BoolOp a b d => exact Bool.noConfusion (h : false = true)
  | IfExp a b d f => exact Bool.noConfusion (h : false = true)
  | Compare a b d f => exact Bool.noConfusion (h : false = true)
  | _ => rfl
theorem EvT_value {e : Expr} {Q : Bool → HF → Prop} (hp : plainTest e = true) (h : EvE c e m H fun v H1 => TruO c.g c.n v H1 Q) : EvT c e m H Q := by
  refine EvT.mk fun A env Fs R s E r eo I => wpAny_isTrue_value ?_ (isTrue_plainTest hp env _)
  refine EvE.bd h r eo I fun a s1 p1 H1 q1 d1 I1 e1 k1 => ?_
  refine Op.bdI (q1 a) r I1 d1 fun t s2 b H2 q2 eq2 I2 e2 k2 => ?_
  cases eq2
  exact ⟨H2, q2, I2, e1.trans e2⟩
theorem EvT_Not {x : Expr} {pos : Pos} {Q : Bool → HF → Prop} (h : EvT c x m H fun b H1 => Q (!b) H1) : EvT c (.UnaryOp .Not x pos) m H Q := by
  refine EvT.mk fun A env Fs R s E r eo I => wpAny_isTrue_Not ?_
  exact EvT.bd h r eo I fun a s1 H1 q1 I1 e1 k1 => ⟨H1, q1, I1, e1⟩
theorem EvT_BoolOp {op : BoolOp} {vs : List Expr} {pos : Pos} {Q : Bool → HF → Prop} (h : EvTs c op vs m H Q) : EvT c (.BoolOp op vs pos) m H Q := by
  refine EvT.mk fun A env Fs R s E r eo I => wpAny_isTrue_BoolOp ?_
  exact EvTs.bd h r eo I fun a s1 H1 q1 I1 e1 k1 => ⟨H1, q1, I1, e1⟩
theorem EvT_Compare {l : Expr} {op : CmpOp} {r : Expr} {pos : Pos} {Q : Bool → HF → Prop} (hm : behindInMarks op r = false)
    (h : EvE c l m H fun a H1 => EvE c r m H1 fun b H2 => CmpO c.g c.n op a b H2 fun v H3 => TruO c.g c.n v H3 Q) : EvT c (.Compare l [op] [r] pos) m H Q := by
  refine EvT.mk fun A env Fs R s E r eo I => wpAny_isTrue_Compare1 ?_ hm
  refine EvE.bd h r eo I fun a s1 p1 H1 q1 d1 I1 e1 k1 => ?_
  refine EvE.bd q1 r eo I1 fun b s2 p2 H2 q2 d2 I2 e2 k2 => ?_
  refine Op.bdI (q2 a b) r I2 ⟨d1.keeps k2, d2⟩ fun v s3 p3 H3 q3 d3 I3 e3 k3 => ?_
  refine Op.bdI (q3 v) r I3 d3 fun t s4 b H4 q4 eq4 I4 e4 k4 => ?_
  cases eq4
  exact ⟨H4, q4, I4, ((e1.trans e2).trans e3).trans e4⟩
theorem tc2 (pos : Pos) (a : Value) (o p : CmpOp) (x y : Sem Value) : testChain pos a [o, p] [x, y] = (do
    let rv ← holding [a] x
    standAt pos
    let c ← holding [a, rv] (compareOp o a rv)
    release [a, rv] [c]
    if ← holding [c, rv] (truthy c) then testChain pos rv [p] [y] else pure false) := rfl
theorem tc1 (pos : Pos) (a : Value) (o : CmpOp) (x : Sem Value) : testChain pos a [o] [x] = (do
    let rv ← holding [a] x
    standAt pos
    let c ← operate [a, rv] (compareOp o a rv)
    holding [c] (truthy c)) := rfl
theorem EvT_Compare2 {l : Expr} {op1 op2 : CmpOp} {r1 r2 : Expr} {pos : Pos} {Q : Bool → HF → Prop} (hm : behindInMarks op2 r2 = false)
    (h : EvE c l m H fun a H1 => EvE c r1 m H1 fun b H2 => CmpO c.g c.n op1 a b H2 fun v H3 => TruO c.g c.n v H3 fun t H4 =>
      (t = true → EvE c r2 m H4 fun d H5 => CmpO c.g c.n op2 b d H5 fun v2 H6 => TruO c.g c.n v2 H6 Q) ∧ (t = false → Q false H4)) : EvT c (.Compare l [op1, op2] [r1, r2] pos) m H Q := by
  refine EvT.mk fun A env Fs R s E r eo I => ?_
  rw [arm_isTrue_Compare]
  refine wpAny_bind (EvE.bd h r eo I fun a s1 p1 H1 q1 d1 I1 e1 k1 => ?_)
  show wpAny _ A (testChain pos a (op1 :: [op2]) (eval r1 env :: [markedBehindIn op2 r2 (eval r2 env)])) _ E s1
  rw [markedBehindIn_of_false hm, tc2]
  refine wpAny_bind (wpAny_holding (EvE.bd q1 r eo I1 fun b s2 p2 H2 q2 d2 I2 e2 k2 => ?_))
  refine wpAny_bind (wpAny_standAt (wpAny_bind (wpAny_holding (Op.bdI (q2 a b) r I2 ⟨d1.keeps k2, d2⟩ fun v s3 p3 H3 q3 d3 I3 e3 k3 => ?_))))
  refine wpAny_bind (wpAny_release (wpAny_bind (wpAny_holding (Op.bdI (q3 v) r I3 d3 fun t s4 t' H4 q4 eq4 I4 e4 k4 => ?_))))
  cases eq4
  have e5 := ((e1.trans e2).trans e3).trans e4
  cases t with
  | false => exact wpAny_pure ⟨H4, q4.2 rfl, I4, e5⟩
  | true =>
    rw [if_pos rfl, tc1]
    refine wpAny_bind (wpAny_holding (EvE.bd (q4.1 rfl) r eo I4 fun d s5 p5 H5 q5 d5 I5 e6 k5 => ?_))
    refine wpAny_bind (wpAny_standAt ?_)
    unfold operate
    refine wpAny_bind (wpAny_bind (wpAny_holding (Op.bdI (q5 b d) r I5 ⟨((d2.keeps k3).keeps k4).keeps k5, d5⟩ fun v2 s6 p6 H6 q6 d6 I6 e7 k6 => ?_)))
    refine wpAny_bind (wpAny_release (wpAny_pure ?_))
    refine wpAny_holding (Op.bdI (q6 v2) r I6 d6 fun t s7 t' H7 q7 eq7 I7 e8 k7 => ?_)
    cases eq7
    exact ⟨H7, q7, I7, ((e5.trans e6).trans e7).trans e8⟩
theorem EvTs_nilA {Q : Bool → HF → Prop} (h : Q true H) : EvTs c .And [] m H Q := EvTs.mk fun A env Fs R s E r eo I => wpAny_allTrue_And_nil ⟨H, h, I, Same.rfl'⟩
theorem EvTs_nilO {Q : Bool → HF → Prop} (h : Q false H) : EvTs c .Or [] m H Q := EvTs.mk fun A env Fs R s E r eo I => wpAny_allTrue_Or_nil ⟨H, h, I, Same.rfl'⟩
theorem EvTs_consA {x : Expr} {rest : List Expr} {Q : Bool → HF → Prop} (h : EvT c x m H fun b H1 => (b = true → EvTs c .And rest m H1 Q) ∧ (b = false → Q false H1)) : EvTs c .And (x :: rest) m H Q := by
  refine EvTs.mk fun A env Fs R s E r eo I => wpAny_allTrue_And_cons ?_
  refine EvT.bd h r eo I fun a s1 H1 q1 I1 e1 k1 => ?_
  cases a with
  | true => exact EvTs.bd (q1.1 rfl) r eo I1 fun v s3 H3 q3 I3 e3 k3 => ⟨H3, q3, I3, e1.trans e3⟩
  | false => exact ⟨H1, q1.2 rfl, I1, e1⟩
theorem EvTs_consO {x : Expr} {rest : List Expr} {Q : Bool → HF → Prop} (h : EvT c x m H fun b H1 => (b = true → Q true H1) ∧ (b = false → EvTs c .Or rest m H1 Q)) : EvTs c .Or (x :: rest) m H Q := by
  refine EvTs.mk fun A env Fs R s E r eo I => wpAny_allTrue_Or_cons ?_
  refine EvT.bd h r eo I fun a s1 H1 q1 I1 e1 k1 => ?_
  cases a with
  | false => exact EvTs.bd (q1.2 rfl) r eo I1 fun v s3 H3 q3 I3 e3 k3 => ⟨H3, q3, I3, e1.trans e3⟩
  | true => exact ⟨H1, q1.1 rfl, I1, e1⟩
/-! storing -/
theorem Inv.setLocal {env : Env} {Fs : List Addr} {R : RF} {h h' : Heap} {x : Str} {p : PV} {v : Value} {mv : Str → Option Value} (I : Inv c env Fs R m H h)
    (hm : ∀ x p, m.lookup x = some p → kindIn c x = some .local → ∃ v, mv x = some v ∧ Den h p v) (hn : h.Ns env.locals mv) (hs : Heap.SameBut env.locals h h')
    (hn' : h'.Ns env.locals (fun y => if y = x then some v else mv y)) (d : Den h p v) (hk : kindIn c x = some .local) : Inv c env Fs R ((x, p) :: m) H h' ∧ TupKeep h h' := by
  have tk : TupKeep h h' := fun a o e q => (hs.2 a fun z => by subst z; exact I.notTup e q).trans e
  have ne : ∀ y, kindIn c y = some .cell ∨ kindIn c y = some .free → (y == x) = false := fun y hy => by
    cases z : y == x with
    | false => rfl
    | true => rw [eq_of_beq z, hk] at hy; rcases hy with hy | hy <;> cases hy
  refine ⟨{
    hi := ⟨fun b o e => (hs.2 b fun z => by rw [z, I.locB] at e; (first | exact nsF e | exact snF e | cases e)).trans (I.hi.base b o e), fun b o e => ?_, fun a y e => ?_, fun L hL => ?_⟩
    locR := I.locR
    locB := I.locB
    locH := I.locH
    locs := ⟨_, hn', fun y q e hy => ?_⟩
    cels := fun y hy => ?_
    celH := fun y a e => ?_
    own := I.own }, tk⟩
  · obtain ⟨o', e', k⟩ := I.hi.rest b o e
    exact ⟨o', (hs.2 b fun z => by rw [z, I.locR] at e; (first | exact nsF e | exact snF e | cases e)).trans e', k⟩
  · refine opq fun Gq hGq => ?_
    obtain ⟨q1, q2, o, q3, q4⟩ := I.hi.mine a y e
    refine hGq ?_
    exact ⟨q1, q2, o, (hs.2 a fun z => by rw [z, I.locH] at e; (first | exact nsF e | exact snF e | cases e)).trans q3, q4.keeps tk⟩
  · refine opq fun Gq hGq => ?_
    obtain ⟨q1, q2, o, es, ep, q3, q4⟩ := I.hi.frs L hL
    refine hGq ?_
    by_cases z : L = env.locals
    · refine opq fun Gq hGq => ?_
      subst z
      obtain ⟨o', es', ep', e', d', _⟩ := hn'
      refine hGq ?_
      exact ⟨q1, q2, o', es', ep', e', d'⟩
    · exact ⟨q1, q2, o, es, ep, (hs.2 L z).trans q3, q4⟩
  · rw [List.lookup_cons] at e
    cases z : y == x with
    | true =>
      rw [z] at e; (first | exact nsF e | exact snF e | cases e)
      exact ⟨v, if_pos (eq_of_beq z), d.keeps tk⟩
    | false =>
      rw [z] at e
      obtain ⟨w, q1, q2⟩ := hm y q e hy
      exact ⟨w, by rw [if_neg (by simpa using z)]; exact q1, q2.keeps tk⟩
  · refine opq fun Gq hGq => ?_
    obtain ⟨a, w, q1, q2, q3⟩ := I.cels y hy
    refine hGq ?_
    refine ⟨a, w, q1, q2.sameBut hs ?_, fun q e => ?_⟩
    · intro z
      refine opq fun Gq hGq => ?_
      obtain ⟨o, e1, e2⟩ := q2
      obtain ⟨o', es', ep', e', d', _⟩ := hn
      refine hGq ?_
      rw [z, e'] at e1; (first | exact nsF e1 | exact snF e1 | cases e1); rw [d'] at e2; cases e2
    · rw [List.lookup_cons, ne y hy] at e
      obtain ⟨u, e1, e2⟩ := q3 q e
      exact ⟨u, e1, e2.keeps tk⟩
  · obtain ⟨q1, w, q2⟩ := I.celH y a e
    refine ⟨q1, w, q2.sameBut hs ?_⟩
    intro z
    refine opq fun Gq hGq => ?_
    obtain ⟨o, e1, e2⟩ := q2
    obtain ⟨o', es', ep', e', d', _⟩ := hn
    refine hGq ?_
    rw [z, e'] at e1; (first | exact nsF e1 | exact snF e1 | cases e1); rw [d'] at e2; cases e2
theorem Inv.setCell {env : Env} {Fs : List Addr} {R : RF} {h h' : Heap} {x : Str} {p : PV} {v : Value} {a : Addr} {v₀ : Option Value} (I : Inv c env Fs R m H h)
    (hk : kindIn c x = some .cell) (ha : env.cells.lookup x = some a) (hR : R a = none) (hB : c.g.h₀.get? a = none) (hA : ∀ y d, y ≠ x → env.cells.lookup y = some d → d ≠ a)
    (hc : h.IsCell a v₀) (hs : Heap.SameBut a h h') (hc' : h'.IsCell a (some v)) (d : Den h p v) : Inv c env Fs R ((x, p) :: m) H h' ∧ TupKeep h h' := by
  have tk : TupKeep h h' := fun b o e q => (hs.2 b fun z => by subst z; exact cell_notTup hc e q).trans e
  obtain ⟨mv, hn, hm⟩ := I.locs
  have hal : env.locals ≠ a := by
    intro z
    obtain ⟨o, e1, e2⟩ := hc
    obtain ⟨o', es', ep', e', d', _⟩ := hn
    rw [← z, e'] at e1; (first | exact nsF e1 | exact snF e1 | cases e1); rw [d'] at e2; cases e2
  refine ⟨{
    hi := ⟨fun b o e => (hs.2 b fun z => by rw [z, hB] at e; (first | exact nsF e | exact snF e | cases e)).trans (I.hi.base b o e), fun b o e => ?_, fun b y e => ?_, fun L hL => ?_⟩
    locR := I.locR
    locB := I.locB
    locH := I.locH
    locs := ⟨_, hn.sameBut hs hal, fun y q e hy => ?_⟩
    cels := fun y hy => ?_
    celH := fun y b e => ?_
    own := I.own }, tk⟩
  · obtain ⟨o', e', k⟩ := I.hi.rest b o e
    exact ⟨o', (hs.2 b fun z => by rw [z, hR] at e; (first | exact nsF e | exact snF e | cases e)).trans e', k⟩
  · refine opq fun Gq hGq => ?_
    obtain ⟨q1, q2, o, q3, q4⟩ := I.hi.mine b y e
    refine hGq ?_
    exact ⟨q1, q2, o, (hs.2 b fun z => by rw [z, (I.celH x a ha).1] at e; (first | exact nsF e | exact snF e | cases e)).trans q3, q4.keeps tk⟩
  · refine opq fun Gq hGq => ?_
    obtain ⟨q1, q2, o, es, ep, q3, q4⟩ := I.hi.frs L hL
    refine hGq ?_
    refine ⟨q1, q2, o, es, ep, (hs.2 L fun z => ?_).trans q3, q4⟩
    obtain ⟨o', e1, e2⟩ := hc
    rw [← z, q3] at e1; (first | exact nsF e1 | exact snF e1 | cases e1); rw [q4] at e2; cases e2
  · rw [List.lookup_cons] at e
    cases z : y == x with
    | true => rw [eq_of_beq z, hk] at hy; (first | exact nsF hy | exact snF hy | cases hy)
    | false =>
      rw [z] at e
      obtain ⟨w, q1, q2⟩ := hm y q e hy
      exact ⟨w, q1, q2.keeps tk⟩
  · refine opq fun Gq hGq => ?_
    obtain ⟨b, w, q1, q2, q3⟩ := I.cels y hy
    refine hGq ?_
    cases z : y == x with
    | true =>
      have := eq_of_beq z; subst this
      rw [ha] at q1; (first | exact nsF q1 | exact snF q1 | cases q1)
      refine ⟨a, some v, ha, hc', fun q e => ?_⟩
      rw [List.lookup_cons, z] at e; (first | exact nsF e | exact snF e | cases e)
      exact ⟨v, rfl, d.keeps tk⟩
    | false =>
      refine ⟨b, w, q1, q2.sameBut hs (hA y b (by simpa using z) q1), fun q e => ?_⟩
      rw [List.lookup_cons, z] at e
      obtain ⟨u, e1, e2⟩ := q3 q e
      exact ⟨u, e1, e2.keeps tk⟩
  · obtain ⟨q1, w, q2⟩ := I.celH y b e
    by_cases z : b = a
    · subst z; exact ⟨q1, _, hc'⟩
    · exact ⟨q1, w, q2.sameBut hs z⟩
noncomputable def stoOK (c : Cx) (x : Str) : Bool := match kindIn c x with
  | some .local => true
  | some .cell => c.ow x
  | _ => false
theorem sto {A : Around} {env : Env} {Fs : List Addr} {R : RF} {s : Shared} {E : Value → Shared → Prop} {x : Str} {p : PV} {w : Value} (hk : stoOK c x = true) (eo : EnvOK c A env) (I : Inv c env Fs R m H s.heap) (d : Den s.heap p w) :
    wpAny (model c.g.prog c.g.w) A (storeName env x w) (fun _ s' => Inv c env Fs R ((x, p) :: m) H s'.heap ∧ Same s s' ∧ TupKeep s.heap s'.heap) E s := by
  have hkf : env.scope.kind = .function := by rw [eo.scope]; exact eo.kind
  have hkx : env.kindOf x = kindIn c x := by unfold Env.kindOf kindIn; rw [eo.scope]
  unfold stoOK at hk
  split at hk
  · rename_i e
    rw [e] at hkx
    obtain ⟨mv, hn, hm⟩ := I.locs
    refine wpAny_storeName_local hkx hn (fun h' h1 h2 => ?_) (by rw [hkf]; rfl)
    obtain ⟨J, tk⟩ := I.setLocal hm hn h2 h1 d e
    exact ⟨J, Same.mk, tk⟩
  · rename_i e
    rw [e] at hkx
    refine opq fun Gq hGq => ?_
    obtain ⟨a, q1, q2, q3, q4⟩ := I.own x e hk
    obtain ⟨b, v, p1, p2, p3⟩ := I.cels x (.inl e)
    refine hGq ?_
    rw [q1] at p1; (first | exact nsF p1 | exact snF p1 | cases p1)
    refine wpAny_storeName_cell hkf hkx q1 p2 fun h' h1 h2 => ?_
    obtain ⟨J, tk⟩ := I.setCell e q1 q2 q3 q4 p2 h2 h1 d
    exact ⟨J, Same.heap, tk⟩
  · cases hk
theorem EvA_Name {x : Str} {pos : Pos} {v : PV} {Q : Vars → HF → Prop} (hk : stoOK c x = true) (h : Q ((x, v) :: m) H) : EvA c (.Name x pos) v m H Q := fun A env Fs R s E w r eo I d => by
  refine wpAny_assign_Name ?_
  exact wpAny_mono (sto hk eo I d) (fun _ s1 ⟨J, e1, k1⟩ => ⟨_, H, h, J, e1, k1⟩) fun _ _ x => x
theorem EvA_Subscript {o i : Expr} {pos : Pos} {v : PV} {Q : Vars → HF → Prop} (h : EvE c o m H fun ov H1 => EvE c i m H1 fun iv H2 => SetO c.g c.n ov iv v H2 fun H3 => Q m H3) : EvA c (.Subscript o i pos) v m H Q := fun A env Fs R s E w r eo I d => by
  rw [arm_assign_Subscript]
  refine wpAny_bind (wpAny_holding (EvE.bd h r eo I fun a s1 p1 H1 q1 d1 I1 e1 k1 => ?_))
  refine wpAny_bind (wpAny_holding (EvE.bd q1 r eo I1 fun b s2 p2 H2 q2 d2 I2 e2 k2 => ?_))
  refine wpAny_bind (wpAny_standAt (wpAny_bind (wpAny_holding ?_)))
  refine Op.bdI (q2 a b w) r I2 ⟨d1.keeps k2, d2, (d.keeps k1).keeps k2⟩ fun t s3 b H3 q3 eq3 I3 e3 k3 => ?_
  exact wpAny_release ⟨m, H3, q3, I3, (e1.trans e2).trans e3, (k1.trans k2).trans k3⟩
noncomputable def EvAs (c : Cx) (es : List Expr) (vs : List PV) (m : Vars) (H : HF) (Q : Vars → HF → Prop) : Prop :=
  ∀ (A : Around) (env : Env) (Fs : List Addr) (R : RF) (s : Shared) (E : Value → Shared → Prop) (ws : List Value), Room c.n Fs A → EnvOK c A env → Inv c env Fs R m H s.heap → DenL s.heap vs ws →
    wpAny (model c.g.prog c.g.w) A (assignInOrder ((assignEach es env).map (·.2)) ws) (AK c env Fs R s Q) E s
theorem assignEach_cons {e : Expr} (h : isStar e = false) (rest : List Expr) (env : Env) : assignEach (e :: rest) env = (false, assign e env) :: assignEach rest env := by
  cases e <;> first | rfl | cases h
theorem EvAs_nil {Q : Vars → HF → Prop} (h : Q m H) : EvAs c [] [] m H Q := fun A env Fs R s E ws r eo I d => by
  rw [show ws = [] from d]
  exact wpAny_pure ⟨m, H, h, I, Same.rfl', TupKeep.refl _⟩
theorem EvAs_cons {t : Expr} {ts : List Expr} {x : PV} {xs : List PV} {Q : Vars → HF → Prop} (hs : isStar t = false) (h : EvA c t x m H fun m1 H1 => EvAs c ts xs m1 H1 Q) : EvAs c (t :: ts) (x :: xs) m H Q := fun A env Fs R s E ws r eo I d => by
  refine opq fun Gq hGq => ?_
  obtain ⟨w, ws', rfl, d1, d2⟩ := d
  refine hGq ?_
  rw [assignEach_cons hs]
  show wpAny _ A (do holding ws' (assign t env w); assignInOrder ((assignEach ts env).map (·.2)) ws') _ E s
  refine wpAny_bind (wpAny_holding (AK.bd (h A env Fs R s E w r eo I d1) fun _ s1 m1 H1 q1 I1 e1 k1 => ?_))
  refine AK.bd (q1 A env Fs R s1 E ws' r eo I1 (d2.keeps k1)) fun _ s2 m2 H2 q2 I2 e2 k2 => ?_
  exact ⟨m2, H2, q2, I2, e1.trans e2, k1.trans k2⟩
theorem extBut_ext {h h' : Heap} (k : Heap.ExtBut h.objs.size h h') : Ext h h' := fun b o e => k b o (Nat.ne_of_lt (Heap.lt_size e)) e
theorem assignEach_plain : ∀ {es : List Expr} (env : Env), es.all (fun e => !isStar e) = true → (assignEach es env).length = es.length ∧ (assignEach es env).findIdx? (·.1) = none
  | [], _, _ => ⟨rfl, rfl⟩
  | e :: es, env, h => by
    rw [List.all_cons, Bool.and_eq_true] at h
    obtain ⟨h1, h2⟩ := assignEach_plain env h.2
    rw [assignEach_cons (by simpa using h.1)]
    refine ⟨by simp [h1], ?_⟩
    rw [List.findIdx?_cons]; simp [h2]
theorem EvA_Tuple {es : List Expr} {k : Nat} {pos : Pos} {xs : List PV} {Q : Vars → HF → Prop} (hs : es.all (fun e => !isStar e) = true) (hl : xs.length = es.length) (h : EvAs c es xs m H Q) : EvA c (.Tuple es k pos) (.tup xs) m H Q :=
  fun A env Fs R s E w r eo I d => by
  refine opq fun Gq hGq => ?_
  obtain ⟨a, vs, rfl, e2, e5⟩ := d
  obtain ⟨q1, q2⟩ := assignEach_plain env hs
  refine hGq ?_
  refine wpAny_assign_Tuple r.1 ⟨_, e2, rfl, 0, rfl⟩ (by rw [q1, ← hl, ← e5.length]; simp) q2 fun h' kx => ?_
  have kx := extBut_ext kx
  refine AK.bd (h A env Fs R { s with heap := h' } E vs.toList r eo (I.ext kx) (e5.keeps kx.tup)) fun _ s2 m2 H2 q2 I2 e2 k2 => ?_
  exact ⟨m2, H2, q2, I2, Same.heap.trans e2, kx.tup.trans k2⟩
end
end Mine
end
section
open PySem PySem.Calls PyProof.Rows
namespace Mine
section
variable {c : Cx} {m : Vars} {H : HF} {Q : Fl → Vars → HF → Prop}
theorem ldVar {A : Around} {env : Env} {Fs : List Addr} {R : RF} {s : Shared} {E : Value → Shared → Prop} {x : Str} {v : PV} {K : Value → Shared → Prop} (eo : EnvOK c A env) (I : Inv c env Fs R m H s.heap) (hk : varKind (kindIn c x) = true) (hv : m.lookup x = some v)
    (hd : (x == ("__classdict__" : Str)) = false) (h : ∀ w, Den s.heap v w → K w s) : wpAny (model c.g.prog c.g.w) A (loadName env x) K E s := by
  have hkf : env.scope.kind = .function := by rw [eo.scope]; exact eo.kind
  have hkx : env.kindOf x = kindIn c x := by unfold Env.kindOf kindIn; rw [eo.scope]
  cases e : kindIn c x with
  | none => rw [e] at hk; (first | exact nsF hk | exact snF hk | cases hk)
  | some k =>
    rw [e] at hkx
    cases k with
    | «local» =>
      refine opq fun Gq hGq => ?_
      obtain ⟨mv, hn, hm⟩ := I.locs
      obtain ⟨w, hw, d⟩ := hm x v hv e
      refine hGq ?_
      exact wpAny_loadName_local hkf hkx hn hw (h w d)
    | cell =>
      refine opq fun Gq hGq => ?_
      obtain ⟨a, v', h1, h2, h3⟩ := I.cels x (.inl e)
      obtain ⟨w, rfl, d⟩ := h3 v hv
      refine hGq ?_
      exact wpAny_loadName_cell hkf hkx h1 h2 (h w d)
    | free =>
      refine opq fun Gq hGq => ?_
      obtain ⟨a, v', h1, h2, h3⟩ := I.cels x (.inr e)
      obtain ⟨w, rfl, d⟩ := h3 v hv
      refine hGq ?_
      exact wpAny_loadName_free hkf hkx h1 h2 (h w d) hd
    | _ => rw [e] at hk; (first | exact nsF hk | exact snF hk | cases hk)
theorem EvSs_nil (h : Q .next m H) : EvSs c [] m H Q := EvM.mk fun A env Fs R s E r eo I => wpAny_execs_nil ⟨.next, m, H, h, rfl, I, Same.rfl'⟩
/-- what follows a statement -/
noncomputable def Then (c : Cx) (rest : List Stmt) (Q : Fl → Vars → HF → Prop) : Fl → Vars → HF → Prop
  | .next, m, H => EvSs c rest m H Q
  | f, m, H => Q f m H
theorem EvSs_cons {st : Stmt} {rest : List Stmt} (h : EvS c st m H (Then c rest Q)) : EvSs c (st :: rest) m H Q := by
  refine EvM.mk fun A env Fs R s E r eo I => wpAny_execs_cons ?_
  refine EvM.bd h r eo I fun a s1 f m1 H1 q1 d1 I1 e1 k1 => ?_
  cases f with
  | next =>
    cases d1
    exact EvM.bd q1 r eo I1 fun v s3 p3 m3 H3 q3 d3 I3 e3 k3 => ⟨p3, m3, H3, q3, d3, I3, e1.trans e3⟩
  | brk => cases d1; exact ⟨.brk, m1, H1, q1, rfl, I1, e1⟩
  | cont => cases d1; exact ⟨.cont, m1, H1, q1, rfl, I1, e1⟩
  | ret v => obtain ⟨w, rfl, d⟩ := d1; exact ⟨.ret v, m1, H1, q1, ⟨w, rfl, d⟩, I1, e1⟩
theorem EvS_Break {pos : Pos} (h : Q .brk m H) : EvS c (.Break pos) m H Q := EvM.mk fun A env Fs R s E r eo I => wpAny_Break ⟨.brk, m, H, h, rfl, I, Same.rfl'⟩
theorem EvS_Continue {pos : Pos} (h : Q .cont m H) : EvS c (.Continue pos) m H Q := EvM.mk fun A env Fs R s E r eo I => wpAny_Continue ⟨.cont, m, H, h, rfl, I, Same.rfl'⟩
theorem EvS_Return {e : Expr} {pos : Pos} (h : EvE c e m H fun v H1 => Q (.ret v) m H1) : EvS c (.Return (some e) pos) m H Q := EvM.mk fun A env Fs R s E r eo I => wpAny_Return_some (by
  exact EvE.bd h r eo I fun a s1 p1 H1 q1 d1 I1 e1 k1 => ⟨.ret p1, m, H1, q1, ⟨a, rfl, d1⟩, I1, e1⟩)
theorem EvS_If {t : Expr} {b o : List Stmt} {pos : Pos} (h : EvT c t m H fun t H1 => (t = true → EvSs c b m H1 Q) ∧ (t = false → EvSs c o m H1 Q)) : EvS c (.If t b o pos) m H Q := by
  refine EvM.mk fun A env Fs R s E r eo I => wpAny_If ?_
  refine EvT.bd h r eo I fun a s1 H1 q1 I1 e1 k1 => ?_
  cases a with
  | true => exact EvM.bd (q1.1 rfl) r eo I1 fun v s3 p3 m3 H3 q3 d3 I3 e3 k3 => ⟨p3, m3, H3, q3, d3, I3, e1.trans e3⟩
  | false => exact EvM.bd (q1.2 rfl) r eo I1 fun v s3 p3 m3 H3 q3 d3 I3 e3 k3 => ⟨p3, m3, H3, q3, d3, I3, e1.trans e3⟩
noncomputable def notComp : Expr → Bool
  | .ListComp .. => false
  | .SetComp .. => false
  | .DictComp .. => false
  | _ => true
theorem swaps_not {e : Expr} (h : notComp e = true) (t : Option Expr) (line : Nat) (env : Env) : swapsWith e t line env = pure false := by
  cases e <;> first | rfl | cases h
theorem EvS_Expr {e : Expr} {pos : Pos} (hc : notComp e = true) (h : EvE c e m H fun _ H1 => Q .next m H1) : EvS c (.Expr e pos) m H Q := by
  refine EvM.mk fun A env Fs R s E r eo I => ?_
  have hi : interactive env = false := by
    unfold interactive; rw [eo.scope, eo.kind]; rfl
  rw [exec_Expr env e pos hi (swaps_not hc _ _ _)]
  refine wpAny_bind (wpAny_standAt (wpAny_bind (EvE.bd h r eo I fun a s1 p1 H1 q1 d1 I1 e1 k1 => ?_)))
  exact wpAny_dropValue ⟨.next, m, H1, q1, rfl, I1, e1⟩
theorem EvS_Assign {t value : Expr} {pos : Pos} (hsw : ∀ env, env.scope = c.sc → swapsWithSole [t] value pos.line env = pure false) (hst : isStar t = false) (hnt : ∀ env, env.scope = c.sc → swappedStores [t] value env = pure none)
    (h : EvE c value m H fun v H1 => EvA c t v m H1 fun m2 H2 => Q .next m2 H2) : EvS c (.Assign [t] value pos) m H Q := by
  refine EvM.mk fun A env Fs R s E r eo I => ?_
  rw [arm_exec_Assign, hsw env eo.scope]
  refine wpAny_bind (wpAny_standAt (wpAny_bind (wpAny_pure ?_)))
  simp only [Bool.false_eq_true, if_false]
  refine wpAny_bind (EvE.bd h r eo I fun a s1 p1 H1 q1 d1 I1 e1 k1 => ?_)
  rw [hnt env eo.scope, assignEach_cons hst]
  refine wpAny_bind (wpAny_pure ?_)
  show wpAny _ A (do assign t env a; pure Flow.next) _ E s1
  refine wpAny_bind (AK.bd (q1 A env Fs R s1 E a r eo I1 d1) fun _ s2 m2 H2 q2 I2 e2 k2 => ?_)
  exact wpAny_pure ⟨.next, m2, H2, q2, rfl, I2, e1.trans e2⟩
theorem EvS_Aug {x : Str} {pos' : Pos} {op : Operator} {value : Expr} {pos : Pos} {old : PV} (hk : varKind (kindIn c x) = true) (hs : stoOK c x = true) (hv : m.lookup x = some old) (hd : (x == ("__classdict__" : Str)) = false)
    (h : EvE c value m H fun v H1 => IBinO c.g c.n op old v H1 fun r H2 => Q .next ((x, r) :: m) H2) : EvS c (.AugAssign (.Name x pos') op value pos) m H Q := by
  refine EvM.mk fun A env Fs R s E r eo I => wpAny_AugAssign_Name ?_
  refine ldVar eo I hk hv hd fun w d => ?_
  refine EvE.bd h r eo I fun a s1 p1 H1 q1 d1 I1 e1 k1 => ?_
  refine Op.bdI (q1 w a) r I1 ⟨d.keeps k1, d1⟩ fun v s3 p3 H3 q3 d3 I3 e3 k3 => ?_
  refine wpAny_mono (sto hs eo I3 d3) (fun _ s4 xq1 => ?_) fun _ _ x => x
  obtain ⟨J, e4, k4⟩ := xq1
  exact ⟨.next, _, H3, q3, rfl, J, (e1.trans e3).trans e4⟩
/-- at a turn's end -/
noncomputable def TurnEnd {σ : Type} (Mv : σ → Vars) (Hh : σ → HF) (S : σ → Prop) (Q : Fl → Vars → HF → Prop) : Fl → Vars → HF → Prop
  | .next, m, H => ∃ st, S st ∧ Vars.Le (Mv st) m ∧ (Hh st).Le H
  | .cont, m, H => ∃ st, S st ∧ Vars.Le (Mv st) m ∧ (Hh st).Le H
  | .brk, m, H => Q .next m H
  | .ret v, m, H => Q (.ret v) m H
theorem EvS_While {σ : Type} (Mv : σ → Vars) (Hh : σ → HF) (S : σ → Prop) (μ : σ → Nat) {t : Expr} {b o : List Stmt} {pos : Pos}
    (h0 : ∃ st, S st ∧ Vars.Le (Mv st) m ∧ (Hh st).Le H)
    (h : ∀ st, S st → EvT c t (Mv st) (Hh st) fun t H1 => (t = true → EvSs c b (Mv st) H1 (TurnEnd Mv Hh (fun st' => S st' ∧ μ st' < μ st) Q)) ∧ (t = false → EvSs c o (Mv st) H1 Q)) : EvS c (.While t b o pos) m H Q := by
  refine EvM.mk fun A env Fs R s E r eo I => wpAny_While ?_
  obtain ⟨st, hS, hm, hH⟩ := h0
  refine codeAny_whileLoop (fun n s' => ∃ st, S st ∧ μ st = n ∧ Inv c env Fs R (Mv st) (Hh st) s'.heap ∧ Same s s') (fun n s1 hI => ?_) (μ st) ⟨st, hS, rfl, I.less hm hH, Same.rfl'⟩
  refine opq fun Gq hGq => ?_
  obtain ⟨st, hS, rfl, I1, e1⟩ := hI
  refine hGq ?_
  refine EvT.bd (h st hS) r eo I1 fun a s2 H2 q2 I2 e2 k2 => ?_
  cases a with
  | false =>
    simp only [Bool.false_eq_true, if_false]
    exact EvM.bd (q2.2 rfl) r eo I2 fun v s3 p3 m3 H3 q3 d3 I3 e3 k3 => ⟨p3, m3, H3, q3, d3, I3, (e1.trans e2).trans e3⟩
  | true =>
    simp only [if_true]
    refine EvM.bd (q2.1 rfl) r eo I2 fun v s3 p3 m3 H3 q3 d3 I3 e3 k3 => ?_
    have e5 := (e1.trans e2).trans e3
    cases p3 with
    | next => cases d3; obtain ⟨st', ⟨z1, z2⟩, z3, z4⟩ := q3; exact ⟨_, z2, st', z1, rfl, I3.less z3 z4, e5⟩
    | cont => cases d3; obtain ⟨st', ⟨z1, z2⟩, z3, z4⟩ := q3; exact ⟨_, z2, st', z1, rfl, I3.less z3 z4, e5⟩
    | brk => cases d3; exact ⟨.next, m3, H3, q3, rfl, I3, e5⟩
    | ret p => obtain ⟨w, rfl, d⟩ := d3; exact ⟨.ret p, m3, H3, q3, ⟨w, rfl, d⟩, I3, e5⟩
end
/-! iterables -/
inductive Src where
  | list (a : Addr) (xs : List PV)
  | tup (xs : List PV)
  | range (a : Addr) (lo hi : Int)
  | bytes (b : List UInt8)
noncomputable def rangeL (lo hi : Int) : List PV := (List.range (hi - lo).toNat).map fun (k : Nat) => PV.int (lo + (k : Int))
noncomputable def Src.val : Src → PV
  | .list a _ => .ref a | .tup xs => .tup xs | .range a _ _ => .ref a | .bytes b => .bytes b
noncomputable def Src.items : Src → List PV
  | .list _ xs => xs | .tup xs => xs | .range _ lo hi => rangeL lo hi | .bytes b => b.map fun c => .int c.toNat
noncomputable def Src.ok : Src → HF → Prop
  | .list a xs, H => H a = some (.list xs)
  | .tup _, _ => True
  | .range a lo hi, H => H a = some (.range lo hi) ∧ -1000000 < lo ∧ lo < 1000000 ∧ -1000000 < hi ∧ hi < 1000000
  | .bytes _, _ => True
/-- once it goes -/
noncomputable def Src.okL : Src → HF → Prop
  | .list a xs, H => H a = some (.list xs)
  | .tup _, _ => True
  | .range .., _ => True
  | .bytes _, _ => True
theorem Src.ok.okL : ∀ {src : Src} {H : HF}, src.ok H → src.okL H
  | .list .., _, h => h
  | .tup _, _, _ => trivial
  | .range .., _, _ => trivial
  | .bytes _, _, _ => trivial
/-- the iterator at its i-th item -/
noncomputable def ItAt (h : Heap) : Src → Nat → Obj → Prop
  | .list a xs, i, o => o.cls = .type "list_iterator" ∧ o.data = .fields #[.ref a, .int i 0]
  | .tup xs, i, o => ∃ t, o.cls = .type "tuple_iterator" ∧ o.data = .fields #[.ref t, .int i 0] ∧ Den h (.tup xs) (.ref t)
  | .range _ lo hi, i, o => o = { cls := .type "range_iterator", data := .fields #[rawInt (lo + i), rawInt (((hi - lo).toNat : Int) - i), rawInt 1] }
  | .bytes b, i, o => ∃ t, o.cls = .type "bytes_iterator" ∧ o.data = .fields #[.bytes b.toArray t, .int i 0]
theorem ItAt.keeps {h h' : Heap} (k : TupKeep h h') : ∀ {src : Src} {i : Nat} {o : Obj}, ItAt h src i o → ItAt h' src i o
  | .list .., _, _, e => e
  | .tup _, _, _, ⟨t, a, b, d⟩ => ⟨t, a, b, d.keeps k⟩
  | .range .., _, _, e => e
  | .bytes _, _, _, e => e
theorem ItAt.fields {h : Heap} : ∀ {src : Src} {i : Nat} {o : Obj}, ItAt h src i o → ∃ vs n, o.data = .fields vs ∧ o.cls = .type n ∧ ["enumerate", "zip", "dict_itemiterator", "dict_reverseitemiterator", "odict_iterator", "itertools.zip_longest", "itertools.pairwise"].contains n = false
  | .list .., _, _, e => ⟨_, _, e.2, e.1, by decide⟩
  | .tup _, _, _, ⟨t, a, b, d⟩ => ⟨_, _, b, a, by decide⟩
  | .range .., _, _, e => by subst e; exact ⟨_, _, rfl, rfl, by decide⟩
  | .bytes _, _, _, ⟨t, a, b⟩ => ⟨_, _, b, a, by decide⟩
theorem rangeL_len (lo hi : Int) : (rangeL lo hi).length = (hi - lo).toNat := by simp [rangeL]
theorem rangeL_get {lo hi : Int} {i : Nat} : (rangeL lo hi)[i]? = if i < (hi - lo).toNat then some (PV.int (lo + (i : Int))) else none := by
  unfold rangeL
  rw [List.getElem?_map]
  split
  · rename_i h; rw [List.getElem?_range h]; rfl
  · rename_i h; rw [List.getElem?_eq_none (by simpa using h)]; rfl
section
variable {c : Cx} {m : Vars} {H : HF} {A : Around} {env : Env} {Fs : List Addr} {R : RF} {s : Shared} {E : Value → Shared → Prop} {src : Src}
theorem mineList {a : Addr} {xs : List PV} {g : G} {h : Heap} (I : HI g Fs R H h) (e : H a = some (.list xs)) : ∃ vs, h.IsList a vs ∧ DenL h xs vs.toList := by
  refine opq fun Gq hGq => ?_
  obtain ⟨_, _, o, h1, vs, n, rfl, h5⟩ := I.mine a _ e
  refine hGq ?_
  exact ⟨vs, ⟨_, h1, rfl, n, rfl⟩, h5⟩
theorem rangeSize_of {lo hi : Int} : Builtin.Range.rangeSize lo hi 1 = ((hi - lo).toNat : Int) := by
  unfold Builtin.Range.rangeSize
  rw [if_pos (by decide)]
  split <;> (first | with_reducible exact rs1 (by assumption) | with_reducible exact rs2 (by assumption))
theorem Builtin_small {lo hi : Int} (h1 : -1000000 < lo) (h2 : lo < 1000000) (h3 : -1000000 < hi) (h4 : hi < 1000000) : Builtin.Range.small lo hi 1 = true := by
  unfold Builtin.Range.small
  rw [rangeSize_of]
  have fits : ∀ x : Int, -10000000 < x → x < 10000000 → Builtin.Range.rangeFitsLong x = true := fun x a b => by
    unfold Builtin.Range.rangeFitsLong
    simp only [Bool.and_eq_true, decide_eq_true_eq]
    with_reducible exact br3 (by assumption) (by assumption)
  rw [fits lo (by with_reducible exact br1 (by assumption)) (by with_reducible exact br2 (by assumption)), fits hi (by with_reducible exact br1 (by assumption)) (by with_reducible exact br2 (by assumption)), fits 1 (by decide) (by decide), fits _ (by with_reducible exact br6 _) (by with_reducible exact rs3 (by assumption) (by assumption))]
  simp only [Bool.true_and, Bool.and_true, Bool.or_eq_true]
  right
  rw [if_pos (by decide)]
  exact fits _ (by with_reducible exact br4 (by assumption)) (by with_reducible exact br5 (by assumption))
theorem iter_start {g : G} (I : HI g Fs R H s.heap) {w : Value} (hs : src.ok H) (d : Den s.heap src.val w) {K : Value → Shared → Prop}
    (h : ∀ o, ItAt (s.heap.push o) src 0 o → o.isFreed = false → K (.ref s.heap.objs.size) { s with heap := s.heap.push o }) : wpAny (model g.prog g.w) A (pyIter w) K E s := by
  cases src with
  | list a xs =>
    refine opq fun Gq hGq => ?_
    cases d
    obtain ⟨vs, h1, h2⟩ := mineList I hs
    refine hGq ?_
    exact wpAny_pyIter_list h1 (h _ ⟨rfl, rfl⟩ rfl)
  | tup xs =>
    refine opq fun Gq hGq => ?_
    obtain ⟨a, vs, rfl, e2, e5⟩ := d
    refine hGq ?_
    exact wpAny_pyIter_tuple ⟨_, e2, rfl, 0, rfl⟩ (h _ ⟨a, rfl, rfl, a, vs, rfl, Heap.get?_push_of_some _ e2, e5.keeps (Ext.push _ _).tup⟩ rfl)
  | range a lo hi =>
    refine opq fun Gq hGq => ?_
    cases d
    obtain ⟨h1, h2, h3, h4, h5⟩ := hs
    obtain ⟨_, _, o, q1, t, u, v, rfl⟩ := I.mine a _ h1
    refine hGq ?_
    refine wpAny_pyIter_range (a := lo) (b := hi) (c := 1) (t := t) (u := u) (v := v) q1 ?_ ?_
    · exact Builtin_small (by with_reducible assumption) (by with_reducible assumption) (by with_reducible assumption) (by with_reducible assumption)
    · refine h _ ?_ rfl
      show _ = _
      rw [rangeSize_of]; simp
  | bytes b =>
    obtain ⟨t, rfl⟩ := d
    exact PySem.W.KBw.pyIter_bytes (h _ ⟨t, rfl, rfl⟩ rfl)
theorem iter_next {g : G} (hh : A.handled = none) (I : HI g Fs R H s.heap) {it : Addr} {i : Nat} {o : Obj} (hs : src.okL H) (ho : s.heap.get? it = some o) (hi : ItAt s.heap src i o) {K : Option Value → Shared → Prop}
    (h1 : ∀ p v h' tk o', src.items[i]? = some p → Heap.SameBut it s.heap h' → h'.get? it = some o' → ItAt h' src (i + 1) o' → Den h' p v → K (some v) { s with heap := h', toks := tk })
    (h2 : ∀ h', src.items[i]? = none → Heap.ExtBut it s.heap h' → K none { s with heap := h' }) : wpAny (model g.prog g.w) A (pyNext (.ref it)) K E s := by
  have tkp : ∀ h', Heap.SameBut it s.heap h' → TupKeep s.heap h' := fun h' hs' a o2 e q => (hs'.2 a fun z => by
    subst z
    rw [ho] at e; (first | exact nsF e | exact snF e | cases e)
    obtain ⟨vs, n, d, _⟩ := hi.fields
    obtain ⟨_, vs', n', d'⟩ := q
    rw [d] at d'; (first | exact nsF d' | exact snF d' | cases d')).trans e
  cases src with
  | list a xs =>
    obtain ⟨vs, q1, q2⟩ := mineList I hs
    have hit : s.heap.IsListIter it a i := ⟨o, ho, hi.1, hi.2⟩
    cases e : vs[i]? with
    | none =>
      refine wpAny_pyNext_list_end hh hit q1 e fun h' k => h2 h' ?_ k
      have : vs.size ≤ i := by simpa using e
      show xs[i]? = none
      rw [List.getElem?_eq_none]; rw [← q2.length]; simpa using this
    | some v =>
      obtain ⟨p, e1, d⟩ := q2.get' (i := i) (v := v) (by simpa using e)
      refine wpAny_pyNext_list_item hit q1 e fun h' k1 k2 => ?_
      obtain ⟨o', z1, z2, z3⟩ := k1
      exact h1 p v h' s.toks o' e1 k2 z1 ⟨z2, z3⟩ (d.keeps (tkp _ k2))
  | tup xs =>
    refine opq fun Gq hGq => ?_
    obtain ⟨t, c1, c2, dt⟩ := hi
    obtain ⟨a, vs, r1, e2, q2⟩ := id dt
    cases r1
    refine hGq ?_
    have q1 : s.heap.IsTuple t vs := ⟨_, e2, rfl, 0, rfl⟩
    have hit : s.heap.IsTupleIter it t i := ⟨o, ho, c1, c2⟩
    cases e : vs[i]? with
    | none =>
      refine wpAny_pyNext_tuple_end hh hit q1 e fun h' k => h2 h' ?_ k
      have : vs.size ≤ i := by simpa using e
      show xs[i]? = none
      rw [List.getElem?_eq_none]; rw [← q2.length]; simpa using this
    | some v =>
      obtain ⟨p, e1, d⟩ := q2.get' (i := i) (v := v) (by simpa using e)
      refine wpAny_pyNext_tuple_item hit q1 e fun h' k1 k2 => ?_
      obtain ⟨o', z1, z2, z3⟩ := k1
      exact h1 p v h' s.toks o' e1 k2 z1 ⟨t, z2, z3, dt.keeps (tkp _ k2)⟩ (d.keeps (tkp _ k2))
  | range a lo hi' =>
    have hit : IsRangeIter s.heap it (lo + i) (((hi' - lo).toNat : Int) - i) 1 := by
      have := ho; rw [show o = _ from hi] at this; exact this
    by_cases hlt : i < (hi' - lo).toNat
    · refine wpAny_pyNext_range_item hit (by with_reducible exact zl1 (by assumption)) fun h' k1 k2 => ?_
      refine h1 (.int (lo + i)) _ h' _ _ ?_ k2 k1 ?_ ⟨_, rfl⟩
      · show (rangeL lo hi')[i]? = _
        rw [rangeL_get, if_pos hlt]
      · show _ = _
        have : (lo + (i : Int) + 1 : Int) = lo + ((i + 1 : Nat) : Int) := by with_reducible exact zl6
        have : ((((hi' - lo).toNat : Int) - i - 1) : Int) = ((hi' - lo).toNat : Int) - ((i + 1 : Nat) : Int) := by with_reducible exact ix6
        simp only [rawInt, *]
    · refine wpAny_pyNext_range_end hh hit (by with_reducible exact zl4 (by assumption)) fun h' k => h2 h' ?_ k
      show (rangeL lo hi')[i]? = _
      rw [rangeL_get, if_neg hlt]
  | bytes b =>
    obtain ⟨t, c1, c2⟩ := hi
    have hit : PySem.W.KBw.IsBytesIter s.heap it b.toArray t i := ⟨o, ho, c1, c2⟩
    cases e : b.toArray[i]? with
    | none =>
      refine PySem.W.KBw.next_end hh hit e fun h' k => h2 h' ?_ k
      have e' : b[i]? = none := by simpa using e
      show (b.map _)[i]? = none
      rw [List.getElem?_map, e']; rfl
    | some v =>
      refine PySem.W.KBw.next_item hit e fun h' k1 k2 => ?_
      obtain ⟨o', z1, z2, z3⟩ := k1
      have e' : b[i]? = some v := by simpa using e
      refine h1 (.int v.toNat) _ h' _ o' ?_ k2 z1 ⟨t, z2, z3⟩ ⟨_, rfl⟩
      show (b.map _)[i]? = _
      rw [List.getElem?_map, e']; rfl
end
end Mine
end
section
open PySem PySem.Calls PyProof.Rows
namespace Mine
noncomputable def RF.put (R : RF) (a : Addr) (o : Obj) : RF := fun b => if b = a then some o else R b
theorem RF.put_self (R : RF) (a : Addr) (o : Obj) : R.put a o a = some o := if_pos rfl
theorem RF.put_other {R : RF} {a b : Addr} {o : Obj} (h : b ≠ a) : R.put a o b = R b := if_neg h
section
variable {c : Cx} {m : Vars} {H : HF} {env : Env} {Fs : List Addr} {R : RF} {h h' : Heap}
/-- a new hidden object -/
theorem Inv.hide {o : Obj} (I : Inv c env Fs R m H h) (hf : o.isFreed = false) : Inv c env Fs (R.put h.objs.size o) m H (h.push o) := by
  have J := I.push (o := o)
  refine { J with hi := { J.hi with rest := fun b z e => ?_, mine := fun a x e => ?_ }, locR := ?_, own := fun x hk ho => ?_ }
  · by_cases hb : b = h.objs.size
    · obtain rfl := Eq.symm hb; rw [RF.put_self] at e; (first | exact nsF e | exact snF e | obtain rfl := Option.some.inj e | cases e); exact ⟨_, Heap.get?_push_size _ hf, .rfl'⟩
    · rw [RF.put_other hb] at e; exact J.hi.rest b z e
  · obtain ⟨p, q, r⟩ := J.hi.mine a x e
    exact ⟨p, by rw [RF.put_other (fun z => by rw [z, I.hi.sizeH] at e; (first | exact nsF e | exact snF e | cases e))]; exact q, r⟩
  · obtain ⟨mv, hn, _⟩ := I.locs
    rw [RF.put_other (Nat.ne_of_lt hn.lt)]; exact I.locR
  · refine opq fun Gq hGq => ?_
    obtain ⟨a, e1, e2, e3, e4⟩ := I.own x hk ho
    obtain ⟨b, v, p1, p2, _⟩ := I.cels x (.inl hk)
    refine hGq ?_
    rw [e1] at p1; (first | exact nsF p1 | exact snF p1 | cases p1)
    exact ⟨a, e1, by rw [RF.put_other (Nat.ne_of_lt p2.lt)]; exact e2, e3, e4⟩
/-- the hidden object changes -/
theorem Inv.rehide {it : Addr} {o o' : Obj} (I : Inv c env Fs (R.put it o) m H h) (hf : ∀ es ep, o.data ≠ .dict es ep) (hcl : ∀ v, o.data ≠ .cell v) (hnt : ¬ TupO o) (hB : c.g.h₀.get? it = none)
    (hs : Heap.SameBut it h h') (ho : h'.get? it = some o') : Inv c env Fs (R.put it o') m H h' ∧ TupKeep h h' := by
  refine opq fun Gq hGq => ?_
  obtain ⟨o2, h1, k⟩ := I.hi.rest it o (RF.put_self ..)
  have := k.of_not hf; obtain rfl := Eq.symm this
  have tk : TupKeep h h' := fun a z e q => (hs.2 a fun w => by obtain rfl := Eq.symm w; rw [h1] at e; (first | exact nsF e | exact snF e | obtain rfl := Option.some.inj e | cases e); exact hnt q).trans e
  have hH : H it = none := by
    cases e : H it with
    | none => rfl
    | some x => obtain ⟨_, q, _⟩ := I.hi.mine it x e; rw [RF.put_self] at q; (first | exact nsF q | exact snF q | obtain rfl := Option.some.inj q | cases q)
  obtain ⟨mv, hn, hm⟩ := I.locs
  refine hGq ?_
  have hL : env.locals ≠ it := fun z => by
    obtain ⟨o', es, ep, e', d', _⟩ := hn
    rw [z, h1] at e'; (first | exact nsF e' | exact snF e' | cases e'); exact hf _ _ d'
  have hC : ∀ a v, h.IsCell a v → a ≠ it := fun a v ⟨oc, e1, e2⟩ z => by
    rw [z, h1] at e1; (first | exact nsF e1 | exact snF e1 | cases e1); exact hcl _ e2
  refine ⟨{
    hi := ⟨fun b z e => (hs.2 b fun w => by rw [w, hB] at e; (first | exact nsF e | exact snF e | cases e)).trans (I.hi.base b z e), fun b z e => ?_, fun a x e => ?_, fun L hL' => ?_⟩
    locR := ?_
    locB := I.locB
    locH := I.locH
    locs := ⟨mv, hn.sameBut hs hL, fun x p a b => let ⟨v, q, d⟩ := hm x p a b; ⟨v, q, d.keeps tk⟩⟩
    cels := fun x hx => let ⟨d, v, e1, e2, e3⟩ := I.cels x hx; ⟨d, v, e1, e2.sameBut hs (hC _ _ e2), fun p hp => let ⟨w, q, d⟩ := e3 p hp; ⟨w, q, d.keeps tk⟩⟩
    celH := fun x d e => let ⟨q, v, r⟩ := I.celH x d e; ⟨q, v, r.sameBut hs (hC _ _ r)⟩
    own := fun x hk ho => ?_ }, tk⟩
  · by_cases hb : b = it
    · obtain rfl := Eq.symm hb; rw [RF.put_self] at e; (first | exact nsF e | exact snF e | obtain rfl := Option.some.inj e | cases e); exact ⟨_, ho, .rfl'⟩
    · rw [RF.put_other hb] at e
      obtain ⟨o3, e3, k3⟩ := I.hi.rest b z (by rw [RF.put_other hb]; exact e)
      exact ⟨o3, (hs.2 b hb).trans e3, k3⟩
  · have ha : a ≠ it := fun z => by rw [z, hH] at e; (first | exact nsF e | exact snF e | cases e)
    refine opq fun Gq hGq => ?_
    obtain ⟨p, q, o3, e3, x3⟩ := I.hi.mine a x e
    refine hGq ?_
    rw [RF.put_other ha] at q
    exact ⟨p, by rw [RF.put_other ha]; exact q, o3, (hs.2 a ha).trans e3, x3.keeps tk⟩
  · refine opq fun Gq hGq => ?_
    obtain ⟨q1, q2, o3, es, ep, q3, q4⟩ := I.hi.frs L hL'
    refine hGq ?_
    refine ⟨q1, q2, o3, es, ep, (hs.2 L fun z => ?_).trans q3, q4⟩
    rw [z, h1] at q3; (first | exact nsF q3 | exact snF q3 | cases q3); exact hf _ _ q4
  · have := I.locR; rw [RF.put_other hL] at this ⊢; exact this
  · refine opq fun Gq hGq => ?_
    obtain ⟨a, e1, e2, e3, e4⟩ := I.own x hk ho
    obtain ⟨b, v, p1, p2, _⟩ := I.cels x (.inl hk)
    refine hGq ?_
    rw [e1] at p1; (first | exact nsF p1 | exact snF p1 | cases p1)
    have ha := hC _ _ p2
    rw [RF.put_other ha] at e2
    exact ⟨a, e1, by rw [RF.put_other ha]; exact e2, e3, e4⟩
/-- the hidden object is given up -/
theorem Inv.unhide {it : Addr} {o : Obj} (I : Inv c env Fs (R.put it o) m H h) (hR : R it = none) (hf : ∀ es ep, o.data ≠ .dict es ep) (hcl : ∀ v, o.data ≠ .cell v) (hnt : ¬ TupO o) (hB : c.g.h₀.get? it = none)
    (hs : Heap.ExtBut it h h') : Inv c env Fs R m H h' ∧ TupKeep h h' := by
  refine opq fun Gq hGq => ?_
  obtain ⟨o2, h1, k⟩ := I.hi.rest it o (RF.put_self ..)
  have := k.of_not hf; obtain rfl := Eq.symm this
  have tk : TupKeep h h' := fun a z e q => hs a z (fun w => by obtain rfl := Eq.symm w; rw [h1] at e; (first | exact nsF e | exact snF e | obtain rfl := Option.some.inj e | cases e); exact hnt q) e
  have hH : H it = none := by
    cases e : H it with
    | none => rfl
    | some x => obtain ⟨_, q, _⟩ := I.hi.mine it x e; rw [RF.put_self] at q; (first | exact nsF q | exact snF q | obtain rfl := Option.some.inj q | cases q)
  obtain ⟨mv, hn, hm⟩ := I.locs
  refine hGq ?_
  have hL : env.locals ≠ it := fun z => by
    obtain ⟨o', es, ep, e', d', _⟩ := hn
    rw [z, h1] at e'; (first | exact nsF e' | exact snF e' | cases e'); exact hf _ _ d'
  have hC : ∀ a v, h.IsCell a v → a ≠ it := fun a v ⟨oc, e1, e2⟩ z => by
    rw [z, h1] at e1; (first | exact nsF e1 | exact snF e1 | cases e1); exact hcl _ e2
  have hCk : ∀ a v, h.IsCell a v → h'.IsCell a v := fun a v y => let ⟨oc, e1, e2⟩ := y; ⟨oc, hs a oc (hC a v y) e1, e2⟩
  refine ⟨{
    hi := ⟨fun b z e => hs b z (fun w => by rw [w, hB] at e; (first | exact nsF e | exact snF e | cases e)) (I.hi.base b z e), fun b z e => ?_, fun a x e => ?_, fun L hL' => ?_⟩
    locR := ?_
    locB := I.locB
    locH := I.locH
    locs := ⟨mv, hn.extBut hs hL, fun x p a b => let ⟨v, q, d⟩ := hm x p a b; ⟨v, q, d.keeps tk⟩⟩
    cels := fun x hx => let ⟨d, v, e1, e2, e3⟩ := I.cels x hx; ⟨d, v, e1, hCk _ _ e2, fun p hp => let ⟨w, q, d⟩ := e3 p hp; ⟨w, q, d.keeps tk⟩⟩
    celH := fun x d e => let ⟨q, v, r⟩ := I.celH x d e; ⟨q, v, hCk _ _ r⟩
    own := fun x hk ho => ?_ }, tk⟩
  · have hb : b ≠ it := fun w => by rw [w, hR] at e; (first | exact nsF e | exact snF e | cases e)
    obtain ⟨o3, e3, k3⟩ := I.hi.rest b z (by rw [RF.put_other hb]; exact e)
    exact ⟨o3, hs b _ hb e3, k3⟩
  · have ha : a ≠ it := fun z => by rw [z, hH] at e; (first | exact nsF e | exact snF e | cases e)
    refine opq fun Gq hGq => ?_
    obtain ⟨p, q, o3, e3, x3⟩ := I.hi.mine a x e
    refine hGq ?_
    rw [RF.put_other ha] at q
    exact ⟨p, q, o3, hs a _ ha e3, x3.keeps tk⟩
  · refine opq fun Gq hGq => ?_
    obtain ⟨q1, q2, o3, es, ep, q3, q4⟩ := I.hi.frs L hL'
    refine hGq ?_
    refine ⟨q1, q2, o3, es, ep, hs L _ (fun z => ?_) q3, q4⟩
    rw [z, h1] at q3; (first | exact nsF q3 | exact snF q3 | cases q3); exact hf _ _ q4
  · have := I.locR; rw [RF.put_other hL] at this; exact this
  · refine opq fun Gq hGq => ?_
    obtain ⟨a, e1, e2, e3, e4⟩ := I.own x hk ho
    obtain ⟨b, v, p1, p2, _⟩ := I.cels x (.inl hk)
    refine hGq ?_
    rw [e1] at p1; (first | exact nsF p1 | exact snF p1 | cases p1)
    have ha := hC _ _ p2
    rw [RF.put_other ha] at e2
    exact ⟨a, e1, e2, e3, e4⟩
theorem goes_plain {M : Model} {A : Around} {E : Value → Shared → Prop} {s : Shared} {target : Expr} {it : Addr} {v : Value} {o : Obj} {vs : Array Value} {n : String} {K : Unit → Shared → Prop} (ho : s.heap.get? it = some o) (hd : o.data = .fields vs) (hc : o.cls = .type n)
    (hn : ["enumerate", "zip", "dict_itemiterator", "dict_reverseitemiterator", "odict_iterator", "itertools.zip_longest", "itertools.pairwise"].contains n = false) (h : K () s) : wpAny M A (letOwnedTupleGo target (.ref it) v) K E s := by
  have core : wpAny M A (do
      let (.ref r, .ref a) := (Value.ref it, v) | return
      let o ← load r
      match o.cls, o.data with
      | .type n, .fields vs =>
        if ["enumerate", "zip", "dict_itemiterator", "dict_reverseitemiterator", "odict_iterator", "itertools.zip_longest", "itertools.pairwise"].contains n && vs[0]? == some (rawInt a) then
          rule "for.unpacks-the-owned-tuple"
          updateField r 0 .none
      | _, _ => pure ()) K E s := by
    cases v <;> first
      | exact wpAny_pure h
      | (refine wpAny_bind (wpAny_load ho ?_)
         rw [hd, hc]
         dsimp only
         rw [hn, Bool.false_and]
         exact wpAny_pure h)
  cases target <;> first | exact core | exact wpAny_pure h
end
section
variable {c : Cx} {m : Vars} {H : HF}
theorem iterFacts {h : Heap} {src : Src} {i : Nat} {o : Obj} (hi : ItAt h src i o) : (∀ es ep, o.data ≠ .dict es ep) ∧ (∀ v, o.data ≠ .cell v) ∧ ¬ TupO o := by
  obtain ⟨vs, n, d, _⟩ := hi.fields
  exact ⟨fun _ _ q => (by rw [d] at q; (first | exact nsF q | exact snF q | cases q)), fun _ q => (by rw [d] at q; (first | exact nsF q | exact snF q | cases q)), fun ⟨_, _, _, q⟩ => (by rw [d] at q; (first | exact nsF q | exact snF q | cases q))⟩
theorem codeAny_forLoop' {prog : Program} {w : World} {A : Around} {R : Result → Shared → Prop} {target it body orelse env} (I : Nat → Shared → Prop)
    (turn : ∀ n s, I n s → wpAny (model prog w) A (pyNext it) (fun r s₁ => match r with
      | none => wpAny (model prog w) A (execs orelse env) (fun f s₃ => R (.ok f) s₃) (notedBy (model prog w) A env fun e s' => R (.error e) s') s₁
      | some v => wpAny (model prog w) A (letOwnedTupleGo target it v) (fun _ s₁' => wpAny (model prog w) A (assign target env v) (fun _ s₂ => wpAny (model prog w) A (execs body env) (fun f s₃ => match f with
          | .next | .cont => ∃ m, m < n ∧ I m s₃
          | .brk => R (.ok .next) s₃
          | .ret v => R (.ok (.ret v)) s₃) (notedBy (model prog w) A env fun e s' => R (.error e) s') s₂) (notedBy (model prog w) A env fun e s' => R (.error e) s') s₁') (notedBy (model prog w) A env fun e s' => R (.error e) s') s₁) (notedBy (model prog w) A env fun e s' => R (.error e) s') s)
    (n : Nat) {s : Shared} (h : I n s) : codeAny (model prog w) A (.forLoop target it body orelse env) R s := by
  refine codeAny_loop' rfl I (fun n s hI => ?_) n h
  show wpAny _ _ ((forTurn target it body orelse env).onRaise (fun x => do noteFrame x env; theTreesLotGoes x)) _ _ s
  refine wpAny_noted ?_
  simp only [forTurn]
  refine wpAny_bind (wpAny_standAt (wpAny_bind (wpAny_onRaise (wpAny_mono (turn n s hI) (fun r s₁ h₁ => ?_) fun _ _ h' => wpAny_standAt h'))))
  cases r with
  | none => exact wpAny_pure (.inr ⟨rfl, codeAny_block h₁⟩)
  | some v =>
    refine wpAny_bind (wpAny_mono h₁ (fun _ s₁' h₁' => ?_) fun _ _ h' => h')
    refine wpAny_bind (wpAny_mono h₁' (fun _ s₂ h₂ => wpAny_bind (wpAny_mono h₂ (fun f s₃ h₃ => ?_) fun _ _ h' => h')) fun _ _ h' => h')
    cases f with
    | next => exact wpAny_pure (.inl ⟨rfl, h₃⟩)
    | cont => exact wpAny_pure (.inl ⟨rfl, h₃⟩)
    | brk => exact wpAny_pure h₃
    | ret v => exact wpAny_pure h₃
noncomputable def notSet : Expr → Bool
  | .Set .. => false
  | _ => true
theorem folded_not {e : Expr} (h : notSet e = true) (env : Env) (x : Value) : foldedSetIterable e env x = pure x := by
  cases e <;> first | rfl | cases h
inductive FI {σ : Type} (c : Cx) (env : Env) (Fs : List Addr) (R : RF) (Mv : σ → Vars) (Hh : σ → HF) (S : Nat → σ → Prop) (src : Src) (it : Addr) (s : Shared) (n : Nat) (s' : Shared) : Prop
  | mk (i : Nat) (st : σ) (o : Obj) (hn : n = src.items.length + 1 - i) (hle : i ≤ src.items.length) (hS : S i st) (hIt : ItAt s'.heap src i o) (I : Inv c env Fs (R.put it o) (Mv st) (Hh st) s'.heap) (e : Same s s')
theorem EvS_ForS {σ : Type} (Mv : Src → σ → Vars) (Hh : Src → σ → HF) (S : Src → Nat → σ → Prop) {t iter : Expr} {b o : List Stmt} {pos : Pos} {Q : Fl → Vars → HF → Prop} (hns : notSet iter = true)
    (hi : EvE c iter m H fun v H1 => ∃ src : Src, src.val = v ∧ src.ok H1 ∧ (∃ st, S src 0 st ∧ Vars.Le (Mv src st) m ∧ (Hh src st).Le H1) ∧
      ∀ i st, S src i st → src.okL (Hh src st) ∧ (∀ x, src.items[i]? = some x → EvA c t x (Mv src st) (Hh src st) fun m1 H2 => EvSs c b m1 H2 (TurnEnd (Mv src) (Hh src) (S src (i + 1)) Q)) ∧ (src.items[i]? = none → EvSs c o (Mv src st) (Hh src st) Q)) :
    EvS c (.For t iter b o pos) m H Q := by
  refine EvM.mk fun A env Fs R s E r eo I => wpAny_For ?_ (folded_not hns env)
  refine EvE.bd hi r eo I fun a s1 p1 H1 q1 d1 I1 e1 k1 => ?_
  refine opq fun Gq hGq => ?_
  obtain ⟨src, rfl, hok, ⟨st, hS, hm, hH⟩, turn⟩ := q1
  refine hGq ?_
  refine iter_start I1.hi hok d1 fun o0 hI0 hf0 => ?_
  have hB := I1.hi.sizeB
  have hR := I1.hi.sizeR
  have I2 := I1.hide hf0
  refine codeAny_forLoop' (FI c env Fs R (Mv src) (Hh src) (S src) src s1.heap.objs.size s) (fun n s2 hI => ?_) (src.items.length + 1)
    ⟨0, st, o0, rfl, Nat.zero_le _, hS, hI0, I2.less hm hH, e1.trans Same.heap⟩
  refine opq fun Gq hGq => ?_
  obtain ⟨i, st, o, rfl, hle, hS, hIt, I3, e3⟩ := hI
  obtain ⟨t1, t2, t3⟩ := turn i st hS
  obtain ⟨f1, f2, f3⟩ := iterFacts hIt
  obtain ⟨o', ho', ko⟩ := I3.hi.rest _ _ (RF.put_self R s1.heap.objs.size o)
  refine hGq ?_
  have := ko.of_not f1; obtain rfl := Eq.symm this
  refine iter_next r.1 I3.hi t1 ho' hIt (fun p v h' tk o2 hx hs' ho2 hIt2 d2 => ?_) fun h' hx hs' => ?_
  · refine opq fun Gq hGq => ?_
    obtain ⟨I4, k4⟩ := I3.rehide f1 f2 f3 hB hs' ho2
    obtain ⟨vs, n, g1, g2, g3⟩ := hIt2.fields
    refine hGq ?_
    refine goes_plain ho2 g1 g2 g3 ?_
    refine AK.bd (t2 p hx A env Fs _ { s2 with heap := h', toks := tk } _ v r eo I4 d2) fun _ s4 m4 H4 q4 I5 e5 k5 => ?_
    have I6 : Inv c env Fs (R.put s1.heap.objs.size o2) m4 H4 s4.heap := I5
    refine EvM.bd q4 r eo I6 fun f s5 p5 m5 H5 q5 d5 I7 e7 k7 => ?_
    have e8 : Same s s5 := (e3.trans (Same.mk.trans e5)).trans e7
    have hlt : i < src.items.length := by
      rcases Nat.lt_or_ge i src.items.length with z | z
      · exact z
      · rw [List.getElem?_eq_none z] at hx; (first | exact nsF hx | exact snF hx | cases hx)
    have fin : (∃ st', S src (i + 1) st' ∧ Vars.Le (Mv src st') m5 ∧ (Hh src st').Le H5) → ∃ k, k < src.items.length + 1 - i ∧ FI c env Fs R (Mv src) (Hh src) (S src) src s1.heap.objs.size s k s5 :=
      fun ⟨st', z1, z2, z3⟩ => ⟨_, by with_reducible exact ns1 (by assumption), i + 1, st', o2, rfl, hlt, z1, hIt2.keeps (k5.trans k7), I7.less z2 z3, e8⟩
    have drop : Inv c env Fs R m5 H5 s5.heap := by
      obtain ⟨f1', f2', f3'⟩ := iterFacts hIt2
      exact (I7.unhide hR f1' f2' f3' hB (fun _ _ _ e => e)).1
    cases p5 with
    | next => (first | exact nsF d5 | exact snF d5 | obtain rfl := Option.some.inj d5 | cases d5); exact fin q5
    | cont => (first | exact nsF d5 | exact snF d5 | obtain rfl := Option.some.inj d5 | cases d5); exact fin q5
    | brk => (first | exact nsF d5 | exact snF d5 | obtain rfl := Option.some.inj d5 | cases d5); exact ⟨.next, m5, H5, q5, rfl, drop, e8⟩
    | ret p => obtain ⟨w, rfl, d⟩ := d5; exact ⟨.ret p, m5, H5, q5, ⟨w, rfl, d⟩, drop, e8⟩
  · obtain ⟨I4, k4⟩ := I3.unhide hR f1 f2 f3 hB hs'
    exact EvM.bd (t3 hx) r eo (s := { s2 with heap := h' }) I4 fun v s3 p3 m3 H3 q3 d3 I5 e5 k3 => ⟨p3, m3, H3, q3, d3, I5, (e3.trans Same.heap).trans e5⟩
theorem EvS_For {σ : Type} (Mv : σ → Vars) (Hh : σ → HF) (S : Nat → σ → Prop) {t iter : Expr} {b o : List Stmt} {pos : Pos} {Q : Fl → Vars → HF → Prop} (hns : notSet iter = true)
    (hi : EvE c iter m H fun v H1 => ∃ src : Src, src.val = v ∧ src.ok H1 ∧ (∃ st, S 0 st ∧ Vars.Le (Mv st) m ∧ (Hh st).Le H1) ∧
      ∀ i st, S i st → src.okL (Hh st) ∧ (∀ x, src.items[i]? = some x → EvA c t x (Mv st) (Hh st) fun m1 H2 => EvSs c b m1 H2 (TurnEnd Mv Hh (S (i + 1)) Q)) ∧ (src.items[i]? = none → EvSs c o (Mv st) (Hh st) Q)) :
    EvS c (.For t iter b o pos) m H Q := EvS_ForS (fun _ => Mv) (fun _ => Hh) (fun _ => S) hns hi
end
end Mine
end
section
open PySem PySem.Calls PyProof.Rows
namespace Mine
/-- a list object with these items -/
noncomputable def LAt (h : Heap) (o : Obj) (xs : List PV) : Prop := ∃ vs n, o = { cls := .type "list", data := .seq vs n } ∧ DenL h xs vs.toList
theorem LAt.keeps {h h' : Heap} {o : Obj} {xs : List PV} (k : TupKeep h h') (l : LAt h o xs) : LAt h' o xs := let ⟨vs, n, d, e⟩ := l; ⟨vs, n, d, e.keeps k⟩
theorem LAt.facts {h : Heap} {o : Obj} {xs : List PV} (l : LAt h o xs) : (∀ es ep, o.data ≠ .dict es ep) ∧ (∀ v, o.data ≠ .cell v) ∧ ¬ TupO o ∧ o.isFreed = false := by
  refine opq fun Gq hGq => ?_
  obtain ⟨vs, n, rfl, e⟩ := l
  refine hGq ?_
  exact ⟨fun _ _ q => (by cases q), fun _ q => (by cases q), fun ⟨q, _⟩ => (by exact absurd q (by simp)), rfl⟩
theorem append_raw {prog : Program} {w : World} {A : Around} {E : Value → Shared → Prop} {s : Shared} {l : Addr} {o : Obj} {items : Array Value} {n : Nat} {x : Value} {Q : Value → Shared → Prop} (ho : s.heap.get? l = some o) (hc : o.cls = .type "list") (hd : o.data = .seq items n)
    (hsz : items.size ≤ sizeLine) (hQ : Q .none { s with heap := s.heap.update l (Obj.mapSeq (·.push x)) }) :
    wpAny (model prog w) A (call (.builtin "list.append") [.ref l, x]) Q E s := by
  refine wpAny_call_entry slot_list_append ⟨o, ho, hc⟩ entry_list_append ?_ (args_list_append _ _)
  show wpAny _ _ (updateSeq l (·.push x) >>= fun _ => ret .none) _ _ s
  refine wpAny_bind ?_
  exact wpAny_updateSeq ho hd (wpAny_pure ⟨.none, rfl, hQ⟩) hsz (by simp; with_reducible assumption)
theorem append_L {prog : Program} {w : World} {A : Around} {E : Value → Shared → Prop} {s : Shared} {l : Addr} {o : Obj} {xs : List PV} {p : PV} {x : Value} {Q : Value → Shared → Prop} (ho : s.heap.get? l = some o) (hl : LAt s.heap o xs)
    (hd : Den s.heap p x) (hsz : xs.length < 100000) (hQ : ∀ h' o', Heap.SameBut l s.heap h' → h'.get? l = some o' → LAt s.heap o' (xs ++ [p]) → Q .none { s with heap := h' }) :
    wpAny (model prog w) A (call (.builtin "list.append") [.ref l, x]) Q E s := by
  refine opq fun Gq hGq => ?_
  obtain ⟨vs, n, rfl, h4⟩ := hl
  refine hGq ?_
  refine append_raw ho rfl rfl ?_ (hQ _ _ (Heap.SameBut.update ..) (Heap.get?_update_self _ ho rfl) ⟨_, _, rfl, ?_⟩)
  · have := h4.length; simp at this; rw [this]; exact sizeL _ (by with_reducible exact Nat.le_of_lt (by assumption))
  · simpa using h4.append (DenL.one hd)
theorem RF.put_comm {R : RF} {a b : Addr} {x y : Obj} (h : a ≠ b) : (R.put a x).put b y = (R.put b y).put a x := by
  funext c
  unfold RF.put
  by_cases e : c = b
  · by_cases e' : c = a
    · exact absurd (e'.symm.trans e) h
    · rw [if_pos e, if_neg e', if_pos e]
  · by_cases e' : c = a
    · rw [if_neg e, if_pos e', if_pos e']
    · rw [if_neg e, if_neg e', if_neg e', if_neg e]
/-- the loop of a comprehension at a depth; the iterator is at its start -/
noncomputable def EvG (c : Cx) (e : Expr) (d : Nat) (src : Src) (m : Vars) (acc : List PV) (H : HF) (Q : Vars → List PV → HF → Prop) : Prop :=
  ∀ (A : Around) (env : Env) (Fs : List Addr) (R : RF) (s : Shared) (it a : Addr) (o oa : Obj), Room c.n Fs A → EnvOK c A env → Inv c env Fs ((R.put a oa).put it o) m H s.heap → c.g.h₀.get? it = none → c.g.h₀.get? a = none → R it = none → R a = none → it ≠ a →
    ItAt s.heap src 0 o → LAt s.heap oa acc → src.ok H →
    codeAny (model c.g.prog c.g.w) A (.compLoop e d (.ref it) (.ref a) env) (fun r s' => match r with
      | .ok _ => ∃ m' acc' H' oa', Q m' acc' H' ∧ Inv c env Fs (R.put a oa') m' H' s'.heap ∧ LAt s'.heap oa' acc' ∧ Same s s' ∧ TupKeep s.heap s'.heap
      | .error _ => False) s
noncomputable def EvIfs (c : Cx) (ifs : List Expr) (m : Vars) (H : HF) (Q : Bool → HF → Prop) : Prop := match ifs with
  | [] => Q true H
  | [t] => EvT c t m H Q
  | _ => False
noncomputable def EvIn (c : Cx) (e elt : Expr) (gens : List Comprehension) (d : Nat) (m : Vars) (acc : List PV) (H : HF) (K : Vars → List PV → HF → Prop) : Prop :=
  match gens[d]? with
  | none => EvE c elt m H fun y H3 => acc.length < 100000 ∧ K m (acc ++ [y]) H3
  | some ⟨_, iter, _, _⟩ => notSet iter = true ∧ EvE c iter m H fun v H3 => ∃ src : Src, src.val = v ∧ src.ok H3 ∧ EvG c e d src m acc H3 K
theorem compStart_loop {prog : Program} {w : World} {A : Around} {R : Result → Shared → Prop} {s : Shared} {elt : Expr} {gens : List Comprehension} {scope : Scope} {pos : Pos} {d : Nat} {it acc : Value} {env : Env} {target iter : Expr} {ifs : List Expr}
    (hg : gens[d]? = some ⟨target, iter, ifs, 0⟩)
    (h : codeAny (model prog w) A (.compLoop (.ListComp elt gens scope pos) d it acc env) R s)
    (hs : ∀ K E, K it s → wpAny (model prog w) A (pyIter it) K E s) : codeAny (model prog w) A (.compStart (.ListComp elt gens scope pos) d it acc env) R s := by
  refine codeAny_of_tree ?_
  show wpAny _ _ ((compStart (.ListComp elt gens scope pos) d it acc env).onRaise (fun x => do noteFrame x env; standAt theWindowsPlace)) _ _ s
  refine wpAny_notedAt ?_
  unfold compStart
  have hc : clausesOf (.ListComp elt gens scope pos) = gens := rfl
  rw [hc, hg]
  show wpAny _ _ (ask >>= _) _ _ s
  refine wpAny_bind (wpAny_askSetting (wpAny_ite ?_))
  split
  · first
      | exact wpAny_bind (wpAny_pure (wpAny_pure (And.intro rfl h)))
      | exact wpAny_pure (And.intro rfl h)
  · first
      | exact wpAny_bind (wpAny_rule (wpAny_bind (wpAny_standAt (wpAny_bind (hs _ _ (wpAny_pure (And.intro rfl h)))))))
      | (refine wpAny_bind (wpAny_rule ?_); show wpAny _ _ (standAt iter.pos >>= _) _ _ s; exact wpAny_bind (wpAny_standAt (wpAny_bind (hs _ _ (wpAny_pure (And.intro rfl h))))))
theorem iter_self {prog : Program} {w : World} {A : Around} {s : Shared} {src : Src} {i : Nat} {it : Addr} {o : Obj} (ho : s.heap.get? it = some o) (hi : ItAt s.heap src i o) : ∀ (K : Value → Shared → Prop) E, K (.ref it) s → wpAny (model prog w) A (pyIter (.ref it)) K E s := by
  intro K E h
  cases src with
  | list a xs => exact wpAny_pyIter_listiter ⟨o, ho, hi.1, hi.2⟩ h
  | tup xs => obtain ⟨t, h1, h2, _⟩ := hi; exact wpAny_pyIter_tupleiter ⟨o, ho, h1, h2⟩ h
  | range a lo hi' => rw [show o = _ from hi] at ho; exact wpAny_pyIter_rangeiter ho h
  | bytes b => obtain ⟨t, h1, h2⟩ := hi; exact PySem.W.KBw.pyIter_self ⟨o, ho, h1, h2⟩ h
theorem compTurn_last (elt : Expr) (gens : List Comprehension) (scope : Scope) (pos : Pos) (d : Nat) (it acc : Value) (env : Env) {target iter : Expr} {ifs : List Expr} (hg : gens[d]? = some ⟨target, iter, ifs, 0⟩) (hg2 : gens[d + 1]? = none) :
    compTurn (.ListComp elt gens scope pos) d it acc env = (standAt iter.pos >>= fun _ => pyNext it >>= fun r => match r with
      | none => pure (.done .next)
      | some v => letOwnedTupleGo target it v >>= fun _ => assign target env v >>= fun _ =>
        (forIn ifs true fun c r => if r = true then do let ok ← isTrue c env (eval c env); pure (ForInStep.yield ok) else pure (ForInStep.yield r)) >>= fun ok =>
        if ok = true then ((eval elt env >>= fun x => call (.builtin "list.append") [acc, x] >>= fun _ => pure ()) >>= fun _ => again (.compLoop (.ListComp elt gens scope pos) d it acc env))
        else again (.compLoop (.ListComp elt gens scope pos) d it acc env)) := by
  unfold compTurn
  dsimp only
  rw [hg, hg2]
  rfl
theorem compTurn_more (elt : Expr) (gens : List Comprehension) (scope : Scope) (pos : Pos) (d : Nat) (it acc : Value) (env : Env) {target iter : Expr} {ifs : List Expr} (hg : gens[d]? = some ⟨target, iter, ifs, 0⟩) {t2 iter2 : Expr} {ifs2 : List Expr} (hg2 : gens[d + 1]? = some ⟨t2, iter2, ifs2, 0⟩) :
    compTurn (.ListComp elt gens scope pos) d it acc env = (standAt iter.pos >>= fun _ => pyNext it >>= fun r => match r with
      | none => pure (.done .next)
      | some v => letOwnedTupleGo target it v >>= fun _ => assign target env v >>= fun _ =>
        (forIn ifs true fun c r => if r = true then do let ok ← isTrue c env (eval c env); pure (ForInStep.yield ok) else pure (ForInStep.yield r)) >>= fun ok =>
        if ok = true then (eval iter2 env >>= fun x => standAt iter2.pos >>= fun _ => foldedSetIterable iter2 env x >>= fun x => holding [x] (pyIter x) >>= fun i2 =>
            runOwn (.compStart (.ListComp elt gens scope pos) (d + 1) i2 acc env) env >>= fun _ => again (.compLoop (.ListComp elt gens scope pos) d it acc env))
        else again (.compLoop (.ListComp elt gens scope pos) d it acc env)) := by
  unfold compTurn
  dsimp only
  rw [hg, hg2]
  rfl
section
variable {c : Cx}
theorem tests_ok {m : Vars} {H : HF} {ifs : List Expr} {A : Around} {env : Env} {Fs : List Addr} {R : RF} {s : Shared} {E : Value → Shared → Prop} {Q : Bool → HF → Prop} {W} (h : EvIfs c ifs m H Q) (r : Room c.n Fs A) (eo : EnvOK c A env) (I : Inv c env Fs R m H s.heap)
    (k : ∀ a s' H', Q a H' → Inv c env Fs R m H' s'.heap → Same s s' → TupKeep s.heap s'.heap → W a s') :
    wpAny (model c.g.prog c.g.w) A (forIn ifs true fun c r => if r = true then do let ok ← isTrue c env (eval c env); pure (ForInStep.yield ok) else pure (ForInStep.yield r)) W E s := by
  match ifs, h with
  | [], h => exact wpAny_tests_nil (k _ _ H h I Same.rfl' (TupKeep.refl _))
  | [t], h => exact wpAny_tests_one (EvT.bd h r eo I k)
inductive GI {σ : Type} (c : Cx) (env : Env) (Fs : List Addr) (R : RF) (Mv : σ → Vars) (Hh : σ → HF) (Ac : σ → List PV) (S : Nat → σ → Prop) (src : Src) (it a : Addr) (s : Shared) (n : Nat) (s' : Shared) : Prop
  | mk (i : Nat) (st : σ) (o oa : Obj) (hn : n = src.items.length + 1 - i) (hle : i ≤ src.items.length) (hS : S i st) (hIt : ItAt s'.heap src i o) (hL : LAt s'.heap oa (Ac st)) (I : Inv c env Fs ((R.put a oa).put it o) (Mv st) (Hh st) s'.heap) (e : Same s s') (k : TupKeep s.heap s'.heap)
theorem EvG_mk {σ : Type} (Mv : σ → Vars) (Hh : σ → HF) (Ac : σ → List PV) (S : Nat → σ → Prop) {elt : Expr} {gens : List Comprehension} {scope : Scope} {pos : Pos} {d : Nat} {src : Src} {m : Vars} {acc : List PV} {H : HF} {Q : Vars → List PV → HF → Prop}
    {target iter : Expr} {ifs : List Expr} (hg : gens[d]? = some ⟨target, iter, ifs, 0⟩) (hgs : ∀ g, gens[d + 1]? = some g → g.is_async = 0)
    (h0 : ∃ st, S 0 st ∧ Vars.Le (Mv st) m ∧ (Hh st).Le H ∧ Ac st = acc)
    (h : ∀ i st, S i st → src.okL (Hh st) ∧
      (∀ x, src.items[i]? = some x → EvA c target x (Mv st) (Hh st) fun m1 H1 => EvIfs c ifs m1 H1 fun ok H2 =>
        (ok = true → EvIn c (.ListComp elt gens scope pos) elt gens (d + 1) m1 (Ac st) H2 fun m4 acc4 H4 => ∃ st', S (i + 1) st' ∧ Vars.Le (Mv st') m4 ∧ (Hh st').Le H4 ∧ Ac st' = acc4) ∧
        (ok = false → ∃ st', S (i + 1) st' ∧ Vars.Le (Mv st') m1 ∧ (Hh st').Le H2 ∧ Ac st' = Ac st)) ∧
      (src.items[i]? = none → Q (Mv st) (Ac st) (Hh st))) : EvG c (.ListComp elt gens scope pos) d src m acc H Q := by
  intro A env Fs R s it a o oa r eo I hBi hBa hRi hRa hia hIt hL hok
  refine opq fun Gq hGq => ?_
  obtain ⟨st, hS, hm, hH, rfl⟩ := h0
  refine hGq ?_
  refine codeAny_loop rfl (GI c env Fs R Mv Hh Ac S src it a s) (fun n s2 hI => ?_) (src.items.length + 1)
    ⟨0, st, o, oa, rfl, Nat.zero_le _, hS, hIt, hL, I.less hm hH, Same.rfl', TupKeep.refl _⟩
  clear I hIt hL hok hS hm hH
  refine opq fun Gq hGq => ?_
  obtain ⟨i, st, o, oa, rfl, hle, hS, hIt, hL, I, e1, k1⟩ := hI
  obtain ⟨t1, t2, t3⟩ := h i st hS
  obtain ⟨f1, f2, f3⟩ := iterFacts hIt
  obtain ⟨l1, l2, l3, l4⟩ := hL.facts
  refine hGq ?_
  show wpAny _ _ ((compTurn (.ListComp elt gens scope pos) d (.ref it) (.ref a) env).onRaise (fun x => do noteFrame x env; theTreesLotGoes x)) _ _ s2
  refine wpAny_noted ?_
  have main : ∀ (tail : Sem Fin) (E : Value → Shared → Prop) (K : Fin → Shared → Prop),
      (∀ m1 H2 s4 o2 E, ItAt s4.heap src (i + 1) o2 → LAt s4.heap oa (Ac st) → Inv c env Fs ((R.put a oa).put it o2) m1 H2 s4.heap → Same s2 s4 → TupKeep s2.heap s4.heap → i < src.items.length →
        EvIn c (.ListComp elt gens scope pos) elt gens (d + 1) m1 (Ac st) H2 (fun m4 acc4 H4 => ∃ st', S (i + 1) st' ∧ Vars.Le (Mv st') m4 ∧ (Hh st').Le H4 ∧ Ac st' = acc4) →
        wpAny (model c.g.prog c.g.w) A tail (fun fin s' => ∃ k, fin = .again (.compLoop (.ListComp elt gens scope pos) d (.ref it) (.ref a) env) ∧ k < src.items.length + 1 - i ∧ GI c env Fs R Mv Hh Ac S src it a s k s') E s4) →
      (∀ m' acc' H' s', Q m' acc' H' → Inv c env Fs (R.put a oa) m' H' s'.heap → LAt s'.heap oa acc' → Same s s' → TupKeep s.heap s'.heap → K (.done .next) s') →
      (∀ k s', (k < src.items.length + 1 - i ∧ GI c env Fs R Mv Hh Ac S src it a s k s') → K (.again (.compLoop (.ListComp elt gens scope pos) d (.ref it) (.ref a) env)) s') →
      wpAny (model c.g.prog c.g.w) A (standAt iter.pos >>= fun _ => pyNext (.ref it) >>= fun r => match r with
      | none => pure (.done .next)
      | some v => letOwnedTupleGo target (.ref it) v >>= fun _ => assign target env v >>= fun _ =>
        (forIn ifs true fun c r => if r = true then do let ok ← isTrue c env (eval c env); pure (ForInStep.yield ok) else pure (ForInStep.yield r)) >>= fun ok =>
        if ok = true then tail else again (.compLoop (.ListComp elt gens scope pos) d (.ref it) (.ref a) env)) K E s2 := by
    intro tail E K htail hdone hagain
    refine wpAny_bind (wpAny_standAt (wpAny_bind ?_))
    obtain ⟨o', ho', ko⟩ := I.hi.rest _ _ (RF.put_self (R.put a oa) it o)
    have := ko.of_not f1; subst this
    refine iter_next r.1 I.hi t1 ho' hIt (fun p v h' tk o2 hx hs' ho2 hIt2 d2 => ?_) fun h' hx hs' => ?_
    · refine opq fun Gq hGq => ?_
      obtain ⟨I4, k4⟩ := I.rehide f1 f2 f3 hBi hs' ho2
      obtain ⟨vs, n, g1, g2, g3⟩ := hIt2.fields
      refine hGq ?_
      have hlt : i < src.items.length := by
        rcases Nat.lt_or_ge i src.items.length with z | z
        · exact z
        · rw [List.getElem?_eq_none z] at hx; (first | exact nsF hx | exact snF hx | cases hx)
      refine wpAny_bind (goes_plain ho2 g1 g2 g3 (wpAny_bind ?_))
      refine AK.bd (t2 p hx A env Fs _ { s2 with heap := h', toks := tk } _ v r eo I4 d2) fun _ s4 m4 H4 q4 I5 e5 k5 => ?_
      refine wpAny_bind (tests_ok q4 r eo I5 fun ok s5 H5 q5 I6 e6 k6 => ?_)
      have kk : TupKeep s2.heap s5.heap := (k4.trans k5).trans k6
      have ee : Same s2 s5 := (Same.mk.trans e5).trans e6
      cases ok with
      | true =>
        rw [if_pos rfl]
        refine wpAny_mono (htail m4 H5 s5 o2 _ (hIt2.keeps (k5.trans k6)) (hL.keeps kk) I6 ee kk hlt (q5.1 rfl)) (fun fin s' xq2 => ?_) fun _ _ x => x
        obtain ⟨k, z1, z2, z3⟩ := xq2
        subst z1; exact hagain k s' ⟨z2, z3⟩
      | false =>
        rw [if_neg (by decide)]
        refine opq fun Gq hGq => ?_
        obtain ⟨st', z1, z2, z3, z4⟩ := q5.2 rfl
        refine hGq ?_
        exact wpAny_pure (hagain _ _ ⟨by with_reducible exact ns1 (by assumption), i + 1, st', o2, oa, rfl, hlt, z1, hIt2.keeps (k5.trans k6), by rw [z4]; exact hL.keeps kk, I6.less z2 z3, e1.trans ee, k1.trans kk⟩)
    · obtain ⟨I4, k4⟩ := I.unhide (by rw [RF.put_other hia]; exact hRi) f1 f2 f3 hBi hs'
      exact wpAny_pure (hdone _ _ _ { s2 with heap := h' } (t3 hx) I4 (hL.keeps k4) (e1.trans Same.heap) (k1.trans k4))
  cases hg2 : gens[d + 1]? with
  | none =>
    rw [compTurn_last elt gens scope pos d (.ref it) (.ref a) env hg hg2]
    refine main _ _ _ (fun m1 H2 s4 o2 E' hIt2 hL2 I2 e2 k2 hlt hin => ?_) (fun m' acc' H' s' q I' L' e' k' => ⟨m', acc', H', oa, q, I', L', e', k'⟩) (fun k s' z => ⟨rfl, k, z.1, z.2⟩)
    unfold EvIn at hin
    rw [hg2] at hin
    obtain ⟨oa', hoa, ka⟩ := I2.hi.rest a oa (by rw [RF.put_other (Ne.symm hia), RF.put_self])
    refine wpAny_bind (wpAny_bind (EvE.bd hin r eo I2 fun v s5 p5 H5 q5 d5 I5 e5 k5 => ?_))
    refine opq fun Gq hGq => ?_
    obtain ⟨hsz, st', z1, z2, z3, z4⟩ := q5
    obtain ⟨oa', hoa, ka⟩ := I5.hi.rest a oa (by rw [RF.put_other (Ne.symm hia), RF.put_self])
    refine hGq ?_
    have := ka.of_not l1; subst this
    refine wpAny_bind (append_L hoa (hL2.keeps k5) d5 hsz fun h' o' hs' ho' hL' => wpAny_pure (wpAny_pure ?_))
    rw [RF.put_comm (Ne.symm hia)] at I5
    obtain ⟨I6, k6⟩ := I5.rehide l1 l2 l3 hBa hs' ho'
    rw [RF.put_comm hia] at I6
    exact ⟨_, rfl, by with_reducible exact ns1 (by assumption), i + 1, st', o2, o', rfl, hlt, z1, hIt2.keeps (k5.trans k6), by rw [z4]; exact hL'.keeps k6, I6.less z2 z3, e1.trans ((e2.trans e5).trans Same.heap), k1.trans ((k2.trans k5).trans k6)⟩
  | some g2 =>
    refine opq fun Gq hGq => ?_
    obtain ⟨t2', iter2, ifs2, as2⟩ := g2
    have := hgs _ hg2
    dsimp only at this
    subst this
    refine hGq ?_
    rw [compTurn_more elt gens scope pos d (.ref it) (.ref a) env hg hg2]
    refine main _ _ _ (fun m1 H2 s4 o2 E' hIt2 hL2 I2 e2 k2 hlt hin => ?_) (fun m' acc' H' s' q I' L' e' k' => ⟨m', acc', H', oa, q, I', L', e', k'⟩) (fun k s' z => ⟨rfl, k, z.1, z.2⟩)
    unfold EvIn at hin
    rw [hg2] at hin
    obtain ⟨hns, hin⟩ := hin
    refine wpAny_bind (EvE.bd hin r eo I2 fun v s5 p5 H5 xq3 d5 I5 e5 k5 => ?_)
    refine opq fun Gq hGq => ?_
    obtain ⟨src2, q5, q6, q7⟩ := xq3
    subst q5
    refine hGq ?_
    refine wpAny_bind (wpAny_standAt (wpAny_bind (wpAny_of_eq (folded_not hns env v) (wpAny_bind (wpAny_holding ?_)))))
    refine iter_start I5.hi q6 d5 fun o5 hI5 hf5 => ?_
    have hB5 := I5.hi.sizeB
    have hR5 := I5.hi.sizeR
    have I6 := I5.hide hf5
    have k6 := (Ext.push s5.heap o5).tup
    have ne1 : s5.heap.objs.size ≠ it := fun z => by rw [z, RF.put_self] at hR5; (first | exact nsF hR5 | exact snF hR5 | cases hR5)
    have ne2 : s5.heap.objs.size ≠ a := fun z => by rw [z, RF.put_other (Ne.symm hia), RF.put_self] at hR5; (first | exact nsF hR5 | exact snF hR5 | cases hR5)
    have hR5' : R s5.heap.objs.size = none := by rw [RF.put_other ne1, RF.put_other ne2] at hR5; exact hR5
    rw [RF.put_comm (Ne.symm hia)] at I6
    have run := q7 A env Fs (R.put it o2) { s5 with heap := s5.heap.push o5 } s5.heap.objs.size a o5 oa r eo I6 hB5 hBa (by rw [RF.put_other ne1]; exact hR5') (by rw [RF.put_other (Ne.symm hia)]; exact hRa) ne2 hI5 ((hL2.keeps k5).keeps k6) (by
      exact q6)
    refine wpAny_bind (wpAny_runOwn (h := none) ?_)
    have hm : A.mark none = A := by obtain ⟨a1, a2, a3, a4, a5⟩ := A; rfl
    rw [hm]
    refine compStart_loop hg2 (codeAny_mono run fun rr s7 h7 => ?_) (iter_self (src := src2) (i := 0) (o := o5) (Heap.get?_push_size _ hf5) hI5)
    cases rr with
    | error x => exact h7.elim
    | ok f =>
      refine opq fun Gq hGq => ?_
      obtain ⟨m', acc', H', oa', ⟨st', z1, z2, z3, z4⟩, I7, L7, e7, k7⟩ := h7
      subst z4
      refine hGq ?_
      rw [RF.put_comm hia] at I7
      refine wpAny_pure ⟨_, rfl, by with_reducible exact ns1 (by assumption), i + 1, st', o2, oa', rfl, hlt, z1, hIt2.keeps ((k5.trans k6).trans k7), L7, I7.less z2 z3, e1.trans (((e2.trans e5).trans Same.heap).trans e7), k1.trans (((k2.trans k5).trans k6).trans k7)⟩
end
end Mine
end
section
open PySem PySem.Calls PyProof.Rows
namespace Mine
noncomputable def relabelS (scope sc : Scope) : Scope :=
  { scope with names := scope.names.map fun (n, k) => if (k == .free && sc.kind == .function && sc.names.lookup n == some .cell) then (n, .cell) else (n, k) }
theorem relabel_eq {scope : Scope} {env : Env} {c : Cx} (h : env.scope = c.sc) : relabel scope env = relabelS scope c.sc := by
  unfold relabel relabelS Env.kindOf; rw [h]
noncomputable def compVars (scope : Scope) (m : Vars) : Vars := m.filter fun e => scope.names.lookup e.1 == some .free
noncomputable def compOK (scope sc : Scope) : Bool :=
  scope.kind == .function && scope.names.all (fun x => scope.names.lookup x.1 == some x.2) && scope.names.all (fun x => x.2 != .free || sc.names.lookup x.1 == some .cell || sc.names.lookup x.1 == some .free)
noncomputable abbrev compCx (c : Cx) (scope : Scope) : Cx := { c with tp := false, ow := fun x => scope.names.lookup x == some .cell, sc := relabelS scope c.sc }
theorem lookup_filter {P : Str → Bool} : ∀ {m : Vars} {x : Str} {p : PV}, (m.filter fun e => P e.1).lookup x = some p → m.lookup x = some p ∧ P x = true
  | [], _, _, h => by cases h
  | (y, q) :: m, x, p, h => by
    rw [List.filter_cons] at h
    cases hp : P y with
    | false =>
      simp only [hp, Bool.false_eq_true, if_false] at h
      obtain ⟨h1, h2⟩ := lookup_filter h
      refine ⟨?_, h2⟩
      rw [List.lookup_cons]
      cases e : x == y with
      | true => rw [eq_of_beq e, hp] at h2; (first | exact nsF h2 | exact snF h2 | cases h2)
      | false => exact h1
    | true =>
      simp only [hp, if_true] at h
      rw [List.lookup_cons] at h ⊢
      cases e : x == y with
      | true => rw [e] at h; exact ⟨h, by rw [eq_of_beq e]; exact hp⟩
      | false => rw [e] at h; exact lookup_filter h
theorem lookup_mem' {β : Type} {x : Str} {c : β} : ∀ {l : List (Str × β)}, l.lookup x = some c → (x, c) ∈ l
  | (y, d) :: l, h => by
    rw [List.lookup_cons] at h
    by_cases e : (x == y) = true
    · rw [e] at h; (first | exact nsF h | exact snF h | cases h); rw [eq_of_beq e]; exact .head _
    · have e' : (x == y) = false := by simpa using e
      rw [e'] at h; exact .tail _ (lookup_mem' h)
theorem lookup_relabelS {scope sc : Scope} {x : Str} : (relabelS scope sc).names.lookup x = (scope.names.lookup x).map fun k => if (k == .free && sc.kind == .function && sc.names.lookup x == some .cell) = true then .cell else k := by
  unfold relabelS
  dsimp only
  induction scope.names with
  | nil => rfl
  | cons y r ih =>
    obtain ⟨n, k⟩ := y
    rw [List.map_cons]
    by_cases e : (x == n) = true
    · have e2 := eq_of_beq e
      subst e2
      by_cases q : (k == NameKind.free && sc.kind == ScopeKind.function && List.lookup x sc.names == some NameKind.cell) = true
      · simp only [List.lookup_cons, if_pos q, e, Option.map]
      · simp only [List.lookup_cons, if_neg q, e, Option.map]
    · have e2 : (x == n) = false := by simpa using e
      by_cases q : (k == NameKind.free && sc.kind == ScopeKind.function && List.lookup n sc.names == some NameKind.cell) = true
      · simp only [List.lookup_cons, if_pos q, e2]; exact ih
      · simp only [List.lookup_cons, if_neg q, e2]; exact ih
noncomputable def clOf (cells : List (Str × Addr)) : List (Str × NameKind) → List (Str × Addr) → List (Str × Addr)
  | [], acc => acc
  | (n, k) :: r, acc => if k == .free then clOf cells r ((n, (cells.lookup n).getD 0) :: acc) else clOf cells r acc
theorem closureFor_clOf {scope : Scope} {env : Env} (h : ∀ x ∈ scope.names, x.2 = .free → (env.cells.lookup x.1).isSome = true) : closureFor scope env = pure (clOf env.cells scope.names []) := by
  unfold closureFor
  have key : ∀ (names : List (Str × NameKind)) (acc : List (Str × Addr)), (∀ x ∈ names, x.2 = .free → (env.cells.lookup x.1).isSome = true) →
      (forIn names acc fun x (cs : List (Str × Addr)) => match x with
        | (name, kind) => if (kind == NameKind.free) = true then do let __do_lift ← cellOf env name; pure (ForInStep.yield ((name, __do_lift) :: cs)) else pure (ForInStep.yield cs) : Sem (List (Str × Addr))) = pure (clOf env.cells names acc) := by
    intro names
    induction names with
    | nil => intro acc _; rfl
    | cons y r ih =>
      intro acc hr
      obtain ⟨n, k⟩ := y
      rw [List.forIn_cons]
      unfold clOf
      by_cases hk : (k == NameKind.free) = true
      · simp only [hk, if_true]
        have hs := hr (n, k) (.head _) (by simpa using hk)
        obtain ⟨a, ha⟩ := Option.isSome_iff_exists.mp hs
        have hc : cellOf env n = pure a := by unfold cellOf; rw [show env.cells.lookup n = some a from ha]
        rw [hc, ha]
        exact ih _ fun x hx => hr x (.tail _ hx)
      · simp only [hk, if_false]
        exact ih _ fun x hx => hr x (.tail _ hx)
  exact (congrArg (fun t : Sem (List (Str × Addr)) => t >>= fun x => pure x) (key scope.names [] h)).trans rfl
theorem clOf_lookup {cells : List (Str × Addr)} : ∀ {names : List (Str × NameKind)} {acc : List (Str × Addr)} {x : Str} {a : Addr}, (∀ x ∈ names, x.2 = .free → (cells.lookup x.1).isSome = true) → (∀ y b, acc.lookup y = some b → cells.lookup y = some b) →
    (clOf cells names acc).lookup x = some a → cells.lookup x = some a
  | [], _, _, _, _, h, e => h _ _ e
  | (n, k) :: r, acc, x, a, hn, h, e => by
    unfold clOf at e
    by_cases hk : (k == NameKind.free) = true
    · rw [if_pos hk] at e
      refine clOf_lookup (fun x hx => hn x (.tail _ hx)) (fun y b e' => ?_) e
      rw [List.lookup_cons] at e'
      cases q : y == n with
      | true =>
        rw [q] at e'; (first | exact nsF e' | exact snF e' | cases e')
        obtain ⟨a, ha⟩ := Option.isSome_iff_exists.mp (hn (n, k) (.head _) (by simpa using hk))
        rw [eq_of_beq q, show cells.lookup n = some a from ha]; rfl
      | false => rw [q] at e'; exact h y b e'
    · rw [if_neg hk] at e
      exact clOf_lookup (fun x hx => hn x (.tail _ hx)) h e
theorem clOf_some {cells : List (Str × Addr)} : ∀ {names : List (Str × NameKind)} {acc : List (Str × Addr)} {x : Str}, (x, NameKind.free) ∈ names ∨ (acc.lookup x).isSome = true → ((clOf cells names acc).lookup x).isSome = true
  | [], _, _, h => h.elim (fun e => by cases e) id
  | (n, k) :: r, acc, x, h => by
    unfold clOf
    by_cases hk : (k == NameKind.free) = true
    · rw [if_pos hk]
      refine clOf_some ?_
      by_cases hx : (x == n) = true
      · exact .inr (by rw [List.lookup_cons, hx]; rfl)
      · have hx' : (x == n) = false := by simpa using hx
        rcases h with h | h
        · rcases List.mem_cons.mp h with e | e
          · (first | exact nsF e | exact snF e | obtain rfl := Option.some.inj e | cases e); simp at hx
          · exact .inl e
        · exact .inr (by rw [List.lookup_cons, hx']; exact h)
    · rw [if_neg hk]
      refine clOf_some ?_
      rcases h with h | h
      · rcases List.mem_cons.mp h with e | e
        · (first | exact nsF e | exact snF e | obtain rfl := Option.some.inj e | cases e); simp at hk
        · exact .inl e
      · exact .inr h
theorem cellsFrom_app : ∀ (names : List (Str × NameKind)) (n : Nat) (acc : List (Str × Addr)), cellsFrom n names acc = cellsFrom n names [] ++ acc
  | [], _, _ => rfl
  | (x, k) :: r, n, acc => by
    unfold cellsFrom
    by_cases hk : (k == NameKind.cell) = true
    · rw [if_pos hk, if_pos hk, cellsFrom_app r (n + 1) ((x, n) :: acc), cellsFrom_app r (n + 1) [(x, n)], List.append_assoc]; rfl
    · rw [if_neg hk, if_neg hk]; exact cellsFrom_app r n acc
theorem cellsFrom_mem : ∀ {names : List (Str × NameKind)} {n : Nat} {acc : List (Str × Addr)} {x : Str} {a : Addr}, (x, a) ∈ cellsFrom n names acc → (x, NameKind.cell) ∈ names ∨ (x, a) ∈ acc
  | [], _, _, _, _, h => .inr h
  | (y, k) :: r, n, acc, x, a, h => by
    unfold cellsFrom at h
    by_cases hk : (k == NameKind.cell) = true
    · rw [if_pos hk] at h
      rcases cellsFrom_mem h with q | q
      · exact .inl (.tail _ q)
      · rcases List.mem_cons.mp q with e | e
        · (first | exact nsF e | exact snF e | obtain rfl := Option.some.inj e | cases e); exact .inl (by rw [eq_of_beq hk]; exact .head _)
        · exact .inr e
    · rw [if_neg hk] at h
      exact (cellsFrom_mem h).imp (.tail _) id
theorem cellsFrom_some' : ∀ {names : List (Str × NameKind)} {n : Nat} {acc : List (Str × Addr)} {x : Str}, (x, NameKind.cell) ∈ names ∨ (acc.lookup x).isSome = true → ((cellsFrom n names acc).lookup x).isSome = true
  | [], _, _, _, h => h.elim (fun e => by cases e) id
  | (y, k) :: r, n, acc, x, h => by
    unfold cellsFrom
    by_cases hk : (k == NameKind.cell) = true
    · rw [if_pos hk]
      refine cellsFrom_some' ?_
      by_cases hx : (x == y) = true
      · exact .inr (by rw [List.lookup_cons, hx]; rfl)
      · have hx' : (x == y) = false := by simpa using hx
        rcases h with h | h
        · rcases List.mem_cons.mp h with e | e
          · (first | exact nsF e | exact snF e | obtain rfl := Option.some.inj e | cases e); simp at hx
          · exact .inl e
        · exact .inr (by rw [List.lookup_cons, hx']; exact h)
    · rw [if_neg hk]
      refine cellsFrom_some' ?_
      rcases h with h | h
      · rcases List.mem_cons.mp h with e | e
        · (first | exact nsF e | exact snF e | obtain rfl := Option.some.inj e | cases e); simp at hk
        · exact .inl e
      · exact .inr h
section
variable {g : G} {Fs : List Addr} {R : RF} {H : HF} {h h' : Heap}
theorem HI.hide {o : Obj} (I : HI g Fs R H h) (hf : o.isFreed = false) : HI g Fs (R.put h.objs.size o) H (h.push o) := by
  have J := I.ext (Ext.push h o)
  refine { J with rest := fun b z e => ?_, mine := fun a x e => ?_ }
  · by_cases hb : b = h.objs.size
    · obtain rfl := Eq.symm hb; rw [RF.put_self] at e; (first | exact nsF e | exact snF e | obtain rfl := Option.some.inj e | cases e); exact ⟨_, Heap.get?_push_size _ hf, .rfl'⟩
    · rw [RF.put_other hb] at e; exact J.rest b z e
  · have xz := J.mine a x e
    have p := xz.1
    have q := xz.2.1
    have r := xz.2.2
    exact ⟨p, by rw [RF.put_other (fun z => by rw [z, I.sizeH] at e; (first | exact nsF e | exact snF e | cases e))]; exact q, r⟩
/-- something that is nobody's changes -/
theorem HI.off {C : Addr} (I : HI g Fs R H h) (hs : Heap.SameBut C h h') (hR : R C = none) (hB : g.h₀.get? C = none) (hH : H C = none) (hF : C ∉ Fs) (hT : ∀ o, h.get? C = some o → ¬ TupO o) : HI g Fs R H h' ∧ TupKeep h h' := by
  have tk : TupKeep h h' := fun a o e q => (hs.2 a fun w => by obtain rfl := Eq.symm w; exact hT o e q).trans e
  refine ⟨⟨fun b o e => (hs.2 b fun w => by rw [w, hB] at e; (first | exact nsF e | exact snF e | cases e)).trans (I.base b o e), fun b z e => ?_, fun a x e => ?_, fun L hL => ?_⟩, tk⟩
  · obtain ⟨o', e', k⟩ := I.rest b z e
    exact ⟨o', (hs.2 b fun w => by rw [w, hR] at e; (first | exact nsF e | exact snF e | cases e)).trans e', k⟩
  · refine opq fun Gq hGq => ?_
    obtain ⟨p, q, o, e3, x3⟩ := I.mine a x e
    refine hGq ?_
    exact ⟨p, q, o, (hs.2 a fun w => by rw [w, hH] at e; (first | exact nsF e | exact snF e | cases e)).trans e3, x3.keeps tk⟩
  · refine opq fun Gq hGq => ?_
    obtain ⟨q1, q2, o, es, ep, q3, q4⟩ := I.frs L hL
    refine hGq ?_
    exact ⟨q1, q2, o, es, ep, (hs.2 L fun w => hF (w ▸ hL)).trans q3, q4⟩
/-- the hidden list is ours -/
theorem HI.adopt {a : Addr} {o : Obj} {xs : List PV} (I : HI g Fs (R.put a o) H h) (hR : R a = none) (hB : g.h₀.get? a = none) (hl : LAt h o xs) : HI g Fs R (H.set a (.list xs)) h ∧ H a = none := by
  obtain ⟨o', h1, k⟩ := I.rest a o (RF.put_self ..)
  have := k.of_not hl.facts.1; subst this
  have hH : H a = none := by
    cases e : H a with
    | none => rfl
    | some x => have xz := I.mine a x e; have q := xz.2.1; rw [RF.put_self] at q; (first | exact nsF q | exact snF q | obtain rfl := Option.some.inj q | cases q)
  refine ⟨{ I with rest := fun b z e => ?_, mine := fun b x e => ?_, frs := fun L hL => ?_ }, hH⟩
  · have hb : b ≠ a := fun w => by rw [w, hR] at e; (first | exact nsF e | exact snF e | cases e)
    exact I.rest b z (by rw [RF.put_other hb]; exact e)
  · by_cases hb : b = a
    · subst hb
      rw [HF.set_self] at e; (first | exact nsF e | exact snF e | cases e)
      exact ⟨hB, hR, o', h1, hl⟩
    · rw [HF.set_other hb] at e
      have xz := I.mine b x e
      have p := xz.1
      have q := xz.2.1
      have r := xz.2.2
      rw [RF.put_other hb] at q
      exact ⟨p, q, r⟩
  · refine opq fun Gq hGq => ?_
    obtain ⟨q1, q2, o, es, ep, q3, q4⟩ := I.frs L hL
    refine hGq ?_
    refine ⟨q1, ?_, o, es, ep, q3, q4⟩
    rw [HF.set_other (fun w => by rw [w, h1] at q3; (first | exact nsF q3 | exact snF q3 | cases q3); exact hl.facts.1 _ _ q4)]; exact q2
end
end Mine
end
section
open PySem PySem.Calls PyProof.Rows
namespace Mine
section
variable {c : Cx} {m : Vars} {H : HF}
theorem comp_enter {scope : Scope} {env : Env} {Fs : List Addr} {R : RF} {s : Shared} {E : Value → Shared → Prop} {A : Around} {o oa : Obj} {K : Env → Shared → Prop} (hok : compOK scope c.sc = true) (eo : EnvOK c A env) (I : Inv c env Fs R m H s.heap) (hfo : o.isFreed = false) (hfa : oa.isFreed = false)
    (hK : ∀ cenv s', EnvOK (compCx c scope) A { cenv with scope := relabel scope env } → Inv (compCx c scope) { cenv with scope := relabel scope env } Fs (((restR H s.heap).put (s.heap.objs.size + 1) oa).put s.heap.objs.size o) (compVars scope m) H s'.heap →
      cenv.locals ∉ Fs → H cenv.locals = none → restR H s.heap cenv.locals = none → c.g.h₀.get? cenv.locals = none → cenv.locals ≠ s.heap.objs.size + 1 → cenv.locals ≠ s.heap.objs.size → Same s s' → Ext s.heap s'.heap → Ext ((s.heap.push o).push oa) s'.heap → s.heap.get? cenv.locals = none → K cenv s') :
    ∃ cl, closureFor scope env = pure cl ∧ wpAny (model c.g.prog c.g.w) A (newFunctionEnv scope env.globals cl [] env.qual none .none (some env)) K E { s with heap := (s.heap.push o).push oa } := by
  unfold compOK at hok
  rw [Bool.and_eq_true, Bool.and_eq_true] at hok
  obtain ⟨⟨hk, hn⟩, hf⟩ := hok
  have hk : scope.kind = .function := by simpa using hk
  rw [List.all_eq_true] at hn hf
  have hcel : ∀ x ∈ scope.names, x.2 = .free → (env.cells.lookup x.1).isSome = true := fun x hx e => by
    have q := hf x hx
    rw [e] at q
    have q' : kindIn c x.1 = some .cell ∨ kindIn c x.1 = some .free := by
      simpa [kindIn] using q
    obtain ⟨a, v, h1, _⟩ := I.cels x.1 q'
    rw [h1]; rfl
  refine ⟨_, closureFor_clOf hcel, ?_⟩
  unfold newFunctionEnv
  simp only [Option.isSome_some, if_true]
  refine wpAny_bind (wpAny_alloc ?_)
  refine wpAny_bind (wpAny_layCells _ (fun name kind cells => by cases hkc : kind == NameKind.cell <;> simp [hkc]) _ _ _ _ ?_)
  rw [List.forIn_nil]
  refine wpAny_bind (wpAny_pure (wpAny_pure ?_))
  -- the heaps
  have e2 : ((s.heap.push o).push oa).objs.size = s.heap.objs.size + 2 := by simp
  have I0 := I.hi.restR
  have I1 := I0.hide hfo
  have I2 := I1.hide hfa
  rw [Heap.size_push, RF.put_comm (a := s.heap.objs.size) (b := s.heap.objs.size + 1) (Nat.ne_of_lt (by with_reducible exact Nat.lt_succ_self _))] at I2
  have x1 : Ext s.heap ((s.heap.push o).push oa) := (Ext.push _ _).trans (Ext.push _ _)
  have x3 := Ext.push ((s.heap.push o).push oa) { cls := .type "dict", data := .dict #[] }
  have I3 := I2.ext x3
  have x4 : Ext (((s.heap.push o).push oa).push { cls := .type "dict", data := .dict #[] }) (pushCells (((s.heap.push o).push oa).push { cls := .type "dict", data := .dict #[] }) scope.names) := pushCells_keeps scope.names _
  have I4 := I3.ext x4
  have x0 : Ext s.heap (pushCells (((s.heap.push o).push oa).push { cls := .type "dict", data := .dict #[] }) scope.names) := x1.trans (x3.trans x4)
  have ok := cellsFrom_ok scope.names (((s.heap.push o).push oa).push { cls := .type "dict", data := .dict #[] }) (s.heap.objs.size + 3) [] ⟨fun _ _ hm => (nomatch hm), List.Pairwise.nil⟩ (by simp)
  have e3 : (((s.heap.push o).push oa).push { cls := .type "dict", data := .dict #[] } : Heap).objs.size = s.heap.objs.size + 3 := by simp
  rw [e3] at ok
  have big : ∀ d, s.heap.objs.size ≤ d → s.heap.get? d = none := fun d hd => by
    cases q : s.heap.get? d with
    | none => rfl
    | some z => exact absurd (Heap.lt_size q) (Nat.not_lt.mpr hd)
  have bigB : ∀ d, s.heap.objs.size ≤ d → c.g.h₀.get? d = none := fun d hd => by
    cases q : c.g.h₀.get? d with
    | none => rfl
    | some z => have := big d hd; rw [I.hi.base d z q] at this; (first | exact nsF this | exact snF this | obtain rfl := Option.some.inj this | cases this)
  have bigH : ∀ d, s.heap.objs.size ≤ d → H d = none := fun d hd => by
    cases q : H d with
    | none => rfl
    | some z => obtain ⟨_, _, o2, q2, _⟩ := I.hi.mine d z q; rw [big d hd] at q2; (first | exact nsF q2 | exact snF q2 | obtain rfl := Option.some.inj q2 | cases q2)
  have bigR : ∀ d, s.heap.objs.size + 2 ≤ d → ((restR H s.heap).put (s.heap.objs.size + 1) oa).put s.heap.objs.size o d = none := fun d hd => by
    rw [RF.put_other (b := d) (a := s.heap.objs.size) (Nat.ne_of_gt (by with_reducible exact ad5 (by assumption))), RF.put_other (b := d) (a := s.heap.objs.size + 1) (Nat.ne_of_gt (by with_reducible exact Nat.lt_of_succ_le (by assumption))), restR_of (bigH d (by with_reducible exact ce1 (by assumption))), big d (by with_reducible exact ce1 (by assumption))]
  have hns := (Heap.Ns.new ((s.heap.push o).push oa) (.type "dict")).keeps x4
  rw [e2] at hns
  have hcl : ∀ x a, (clOf env.cells scope.names []).lookup x = some a → env.cells.lookup x = some a := fun x a e => clOf_lookup hcel (fun y b e => by cases e) e
  -- what a cell is
  have cases_ : ∀ x a, (cellsFrom (s.heap.objs.size + 3) scope.names (clOf env.cells scope.names [])).lookup x = some a →
      ((x, a) ∈ cellsFrom (s.heap.objs.size + 3) scope.names [] ∧ s.heap.objs.size + 3 ≤ a ∧ (pushCells (((s.heap.push o).push oa).push { cls := .type "dict", data := .dict #[] }) scope.names).IsCell a none) ∨
      (env.cells.lookup x = some a ∧ a < s.heap.objs.size ∧ (cellsFrom (s.heap.objs.size + 3) scope.names []).lookup x = none) := fun x a e => by
    rw [cellsFrom_app, List.lookup_append] at e
    cases q : (cellsFrom (s.heap.objs.size + 3) scope.names []).lookup x with
    | some b =>
      rw [q] at e
      have : b = a := by simpa using e
      subst this
      have hm := lookup_mem' q
      exact .inl ⟨hm, (ok.empty x b hm).2, (ok.empty x b hm).1⟩
    | none =>
      rw [q] at e
      have e' := hcl x a (by simpa using e)
      obtain ⟨_, v, hv⟩ := I.celH x a e'
      exact .inr ⟨e', hv.lt, rfl⟩
  refine hK _ { s with heap := pushCells (((s.heap.push o).push oa).push { cls := .type "dict", data := .dict #[] }) scope.names } ⟨?_, ?_, eo.globals, eo.builtins, eo.code, (fun q => by cases q), fun q => by cases q⟩ ?_ ?_ ?_ ?_ ?_ ?_ ?_ ?_ x0 (x3.trans x4) ?_
  · exact relabel_eq eo.scope
  · exact hk
  · refine {
      hi := I4
      locR := by show _ = none; simp only [Heap.size_push]; exact bigR _ (by with_reducible exact Nat.le_refl _)
      locB := by show c.g.h₀.get? _ = none; simp only [Heap.size_push]; exact bigB _ (by with_reducible exact ce6 _)
      locH := by show H _ = none; simp only [Heap.size_push]; exact bigH _ (by with_reducible exact ce6 _)
      locs := ⟨_, by show Heap.Ns _ _ _; simp only [Heap.size_push]; exact hns, fun x p e hl => ?_⟩
      cels := fun x hx => ?_
      celH := fun x a e => ?_
      own := fun x hx ho => ?_ }
    · obtain ⟨q1, q2⟩ := lookup_filter (P := fun y => scope.names.lookup y == some .free) e
      have q2 : scope.names.lookup x = some .free := by simpa using q2
      have hl' : (relabelS scope c.sc).names.lookup x = some .local := hl
      rw [lookup_relabelS, q2] at hl'
      simp only [Option.map] at hl'
      split at hl' <;> (first | exact nsF hl' | exact snF hl' | obtain rfl := Option.some.inj hl' | cases hl')
    · have hx' : (relabelS scope c.sc).names.lookup x = some .cell ∨ (relabelS scope c.sc).names.lookup x = some .free := hx
      rw [lookup_relabelS] at hx'
      have base : scope.names.lookup x = some .cell ∨ scope.names.lookup x = some .free := by
        cases q : scope.names.lookup x with
        | none => rw [q] at hx'; rcases hx' with e | e <;> (first | exact nsF e | exact snF e | obtain rfl := Option.some.inj e | cases e)
        | some k =>
          rw [q] at hx'
          simp only [Option.map] at hx'
          by_cases z : (k == NameKind.free && c.sc.kind == ScopeKind.function && List.lookup x c.sc.names == some NameKind.cell) = true
          · simp only [Bool.and_eq_true] at z
            right; rw [eq_of_beq z.1.1]
          · rw [if_neg z] at hx'
            rcases hx' with e | e <;> ((first | exact nsF e | exact snF e | obtain rfl := Option.some.inj e | cases e)) <;> simp
      show ∃ a v, (cellsFrom _ scope.names (clOf env.cells scope.names [])).lookup x = some a ∧ _
      simp only [Heap.size_push]
      rcases base with base | base
      · obtain ⟨a, ha⟩ := Option.isSome_iff_exists.mp (cellsFrom_some' (n := s.heap.objs.size + 3) (acc := clOf env.cells scope.names []) (.inl (lookup_mem' base)))
        refine ⟨a, none, ha, ?_, fun p e => ?_⟩
        · rcases cases_ x a ha with ⟨z1, z2, z3⟩ | ⟨z1, z2, z3⟩
          · exact z3
          · have := cellsFrom_some' (n := s.heap.objs.size + 3) (acc := []) (.inl (lookup_mem' base))
            rw [z3] at this; (first | exact nsF this | exact snF this | cases this)
        · obtain ⟨_, q2⟩ := lookup_filter (P := fun y => scope.names.lookup y == some .free) e
          rw [base] at q2; (first | exact nsF q2 | exact snF q2 | cases q2)
      · obtain ⟨a, ha⟩ := Option.isSome_iff_exists.mp (cellsFrom_some' (n := s.heap.objs.size + 3) (names := scope.names) (acc := clOf env.cells scope.names []) (x := x) (.inr (clOf_some (.inl (lookup_mem' base)))))
        rcases cases_ x a ha with ⟨z1, z2, z3⟩ | ⟨z1, z2, z3⟩
        · rcases cellsFrom_mem z1 with q | q
          · have := hn _ q
            rw [base] at this; simp at this
          · (first | exact nsF q | exact snF q | obtain rfl := Option.some.inj q | cases q)
        · have kx : kindIn c x = some .cell ∨ kindIn c x = some .free := by
            have := hf _ (lookup_mem' base)
            simpa [kindIn] using this
          refine opq fun Gq hGq => ?_
          obtain ⟨a', v, h1, h2, h3⟩ := I.cels x kx
          refine hGq ?_
          rw [z1] at h1; (first | exact nsF h1 | exact snF h1 | cases h1)
          refine ⟨a, v, ha, h2.keeps x0, fun p e => ?_⟩
          obtain ⟨q1, _⟩ := lookup_filter (P := fun y => scope.names.lookup y == some .free) e
          obtain ⟨w, q3, q4⟩ := h3 p q1
          exact ⟨w, q3, q4.keeps x0.tup⟩
    · have e' : (cellsFrom (s.heap.objs.size + 3) scope.names (clOf env.cells scope.names [])).lookup x = some a := by
        have := e; simp only [Heap.size_push] at this; exact this
      rcases cases_ x a e' with ⟨z1, z2, z3⟩ | ⟨z1, z2, z3⟩
      · exact ⟨bigH a (by with_reducible exact ce3 (by assumption)), _, z3⟩
      · obtain ⟨q1, v, q2⟩ := I.celH x a z1
        exact ⟨q1, v, q2.keeps x0⟩
    · have ho' : scope.names.lookup x = some .cell := by simpa [compCx] using ho
      show ∃ a, (cellsFrom _ scope.names (clOf env.cells scope.names [])).lookup x = some a ∧ _
      simp only [Heap.size_push]
      obtain ⟨a, ha⟩ := Option.isSome_iff_exists.mp (cellsFrom_some' (n := s.heap.objs.size + 3) (acc := clOf env.cells scope.names []) (.inl (lookup_mem' ho')))
      rcases cases_ x a ha with ⟨z1, z2, z3⟩ | ⟨z1, z2, z3⟩
      · refine ⟨a, ha, bigR a (by clear ho e3 e2 eo; with_reducible exact Nat.le_of_succ_le (by assumption)), bigB a (by clear ho e3 e2 eo; with_reducible exact ce3 (by assumption)), fun y d hy e => ?_⟩
        have e' : (cellsFrom (s.heap.objs.size + 3) scope.names (clOf env.cells scope.names [])).lookup y = some d := by
          exact e
        rcases cases_ y d e' with ⟨w1, w2, w3⟩ | ⟨w1, w2, w3⟩
        · intro z; subst z
          exact hy (name_of_addr ok.apart w1 z1)
        · exact Nat.ne_of_lt (Nat.lt_of_lt_of_le w2 (Nat.le_trans (Nat.le_add_right _ 3) z2))
      · have := cellsFrom_some' (n := s.heap.objs.size + 3) (acc := []) (.inl (lookup_mem' ho'))
        rw [z3] at this; (first | exact nsF this | exact snF this | cases this)
  · show _ ∉ Fs
    intro hL
    simp only [Heap.size_push] at hL
    refine opq fun Gq hGq => ?_
    obtain ⟨_, _, o2, es, ep, q, _⟩ := I.hi.frs _ hL
    refine hGq ?_
    rw [big _ (by with_reducible exact ce6 _)] at q; (first | exact nsF q | exact snF q | cases q)
  · show H _ = none; simp only [Heap.size_push]; exact bigH _ (by with_reducible exact ce6 _)
  · show restR H s.heap _ = none; simp only [Heap.size_push]; rw [restR_of (bigH _ (by with_reducible exact ce6 _)), big _ (by with_reducible exact ce6 _)]
  · show c.g.h₀.get? _ = none; simp only [Heap.size_push]; exact bigB _ (by with_reducible exact ce6 _)
  · show ((s.heap.push o).push oa).objs.size ≠ _; simp only [Heap.size_push]; (intro _; with_reducible exact ce5 (by assumption))
  · show ((s.heap.push o).push oa).objs.size ≠ _; simp only [Heap.size_push]; (intro _; with_reducible exact ce4 (by assumption))
  · exact Same.heap
  · show s.heap.get? _ = none; simp only [Heap.size_push]; exact big _ (by with_reducible exact ce6 _)
theorem closureFor_ok {scope : Scope} {env : Env} {Fs : List Addr} {R : RF} {h : Heap} {A : Around} (hok : compOK scope c.sc = true) (eo : EnvOK c A env) (I : Inv c env Fs R m H h) : ∃ cl, closureFor scope env = pure cl := by
  unfold compOK at hok
  rw [Bool.and_eq_true, Bool.and_eq_true] at hok
  obtain ⟨⟨hk, hn⟩, hf⟩ := hok
  rw [List.all_eq_true] at hn hf
  refine ⟨_, closureFor_clOf fun x hx e => ?_⟩
  have q := hf x hx
  rw [e] at q
  have q' : kindIn c x.1 = some .cell ∨ kindIn c x.1 = some .free := by
    simpa [kindIn] using q
  obtain ⟨a, v, h1, _⟩ := I.cels x.1 q'
  rw [h1]; rfl
theorem comp_core {elt : Expr} {gens : List Comprehension} {scope : Scope} {pos : Pos} {target iter : Expr} {ifs : List Expr} {rest : List Comprehension} {use : Option (Value → Sem Unit)} (hgens : gens = ⟨target, iter, ifs, 0⟩ :: rest) (hok : compOK scope c.sc = true) (hns : notSet iter = true)
    {A : Around} {env : Env} {Fs : List Addr} {R : RF} {s : Shared} {E : Value → Shared → Prop} {K : Value → Shared → Prop} {Qa : List PV → HF → Prop} (r : Room c.n Fs A) (eo : EnvOK c A env) (I : Inv c env Fs R m H s.heap)
    (h : EvE c iter m H fun v H1 => ∃ src : Src, src.val = v ∧ src.ok H1 ∧ EvG (compCx c scope) (.ListComp elt gens scope pos) 0 src (compVars scope m) [] H1 (fun _ acc H2 => Qa acc H2))
    (hq : ∀ a C acc H2 s', Qa acc H2 → H2 a = none → Inv c env Fs R m (H2.set a (.list acc)) s'.heap → Same s s' → TupKeep s.heap s'.heap →
      (∃ mv, s'.heap.Ns C mv) → R C = none → c.g.h₀.get? C = none → (H2.set a (.list acc)) C = none → C ∉ Fs → C ≠ env.locals → (∀ x b, env.cells.lookup x = some b → b ≠ C) →
      compPost (model c.g.prog c.g.w) A E use K (.ref a) C (.ok .next) s') :
    wpAny (model c.g.prog c.g.w) A (comprehension (.ListComp elt gens scope pos) scope env (firstIterPos gens pos) (newList []) (firstAsync gens) (firstIter gens env) use) K E s := by
  obtain ⟨cl, hcl⟩ := closureFor_ok hok eo I
  have hk : scope.kind = .function := by
    unfold compOK at hok; rw [Bool.and_eq_true, Bool.and_eq_true] at hok; simpa using hok.1.1
  have hnm : ∀ x ∈ scope.names, x.2 = .local → scope.names.lookup x.1 = some .local := fun x hx e => by
    unfold compOK at hok; rw [Bool.and_eq_true, Bool.and_eq_true, List.all_eq_true] at hok
    have := hok.1.2 x hx; rw [e] at this; simpa using this
  subst hgens
  show wpAny _ A (comprehension (.ListComp elt (⟨target, iter, ifs, 0⟩ :: rest) scope pos) scope env (firstIterPos (⟨target, iter, ifs, 0⟩ :: rest) pos) (newList []) false (eval iter env) use) K E s
  refine wpAny_comprehension_free (g := ⟨target, iter, ifs, 0⟩) (gs := rest) rfl (folded_not hns env) hcl hk hnm ?_
  refine EvE.bd h r eo I fun v s1 p1 H1 xq4 d1 I1 e1 k1 => ?_
  refine opq fun Gq hGq => ?_
  obtain ⟨src, q1, q2, q3⟩ := xq4
  subst q1
  refine hGq ?_
  refine iter_start I1.hi q2 d1 fun o hIt hfo => ?_
  refine wpAny_newList ?_
  obtain ⟨cl', hcl', run⟩ := comp_enter (E := E) (o := o) (oa := { cls := .type "list", data := .seq ([] : List Value).toArray }) (K := fun cenv s₄ =>
        codeAny (model c.g.prog c.g.w) A (.compStart (.ListComp elt (⟨target, iter, ifs, 0⟩ :: rest) scope pos) 0 (.ref s1.heap.objs.size) (.ref (s1.heap.push o).objs.size) { cenv with scope := relabel scope env }) (compPost (model c.g.prog c.g.w) A E use K (.ref (s1.heap.push o).objs.size) cenv.locals) s₄) hok eo I1 hfo rfl
    (fun cenv s5 eo5 I5 nF nH nR nB na nit e5 x5 x5' none5 => by
      have hBi := I1.hi.sizeB
      have hBa : c.g.h₀.get? (s1.heap.objs.size + 1) = none := by
        have := (I1.push (o := o)).hi.sizeB; rw [Heap.size_push] at this; exact this
      have hHi := I1.hi.sizeH
      have hHa : H1 (s1.heap.objs.size + 1) = none := by
        have := (I1.push (o := o)).hi.sizeH; rw [Heap.size_push] at this; exact this
      have big : ∀ d, s1.heap.objs.size ≤ d → s1.heap.get? d = none := fun d hd => by
        cases q : s1.heap.get? d with
        | none => rfl
        | some z => exact absurd (Heap.lt_size q) (Nat.not_lt.mpr hd)
      have hit : s5.heap.get? s1.heap.objs.size = some o := x5' _ _ (Heap.get?_push_of_some _ (Heap.get?_push_size _ hfo))
      have hIt5 : ItAt s5.heap src 0 o := (hIt.keeps (Ext.push _ _).tup).keeps x5'.tup
      have run := q3 A _ Fs (restR H1 s1.heap) s5 s1.heap.objs.size (s1.heap.objs.size + 1) o _ r eo5 I5 hBi hBa (by rw [restR_of hHi, big _ (Nat.le_refl _)]) (by rw [restR_of hHa, big _ (Nat.le_succ _)]) (Nat.ne_of_lt (Nat.lt_succ_self _)) hIt5 ⟨_, _, rfl, rfl⟩ q2
      rw [Heap.size_push]
      refine compStart_loop (target := target) (iter := iter) (ifs := ifs) rfl (codeAny_mono run fun rr s7 h7 => ?_) (iter_self hit hIt5)
      cases rr with
      | error x => exact h7.elim
      | ok f =>
        obtain ⟨m', acc', H', oa', Qa', I7, L7, e7, k7⟩ := h7
        obtain ⟨J, ha⟩ := I7.hi.adopt (by rw [restR_of hHa, big _ (Nat.le_succ _)]) hBa L7
        obtain ⟨J', kt⟩ := Inv.back I1 J
        obtain ⟨mv, hn7, _⟩ := I7.locs
        have nH' : (H'.set (s1.heap.objs.size + 1) (.list acc')) cenv.locals = none := by
          rw [HF.set_other na]; exact I7.locH
        have res := hq (s1.heap.objs.size + 1) cenv.locals acc' H' s7 Qa' ha J' (e1.trans (e5.trans e7)) (k1.trans kt) ⟨mv, hn7⟩ (by
          cases z : R cenv.locals with
          | none => rfl
          | some z' => obtain ⟨_, q, _⟩ := I1.hi.rest _ _ z; rw [none5] at q; (first | exact nsF q | exact snF q | obtain rfl := Option.some.inj q | cases q)) nB nH' nF (by
          obtain ⟨mv', hn', _⟩ := I1.locs
          obtain ⟨o', _, _, z, _⟩ := hn'
          intro w; rw [w, z] at none5; (first | exact nsF none5 | exact snF none5 | obtain rfl := Option.some.inj none5 | cases none5)) (fun x b e w => by
          obtain ⟨_, v, o', z, _⟩ := I1.celH x b e
          rw [w, none5] at z; (first | exact nsF z | exact snF z | cases z))
        cases use <;> exact res)
  rw [hcl] at hcl'
  have hcc : cl = cl' := by injection hcl'
  subst hcc
  exact run
theorem EvE_ListComp {elt : Expr} {gens : List Comprehension} {scope : Scope} {pos : Pos} {target iter : Expr} {ifs : List Expr} {rest : List Comprehension} {Q : PV → HF → Prop} (hgens : gens = ⟨target, iter, ifs, 0⟩ :: rest) (hok : compOK scope c.sc = true) (hns : notSet iter = true)
    (h : EvE c iter m H fun v H1 => ∃ src : Src, src.val = v ∧ src.ok H1 ∧ EvG (compCx c scope) (.ListComp elt gens scope pos) 0 src (compVars scope m) [] H1 (fun _ acc H2 => ∀ a, H2 a = none → Q (.ref a) (H2.set a (.list acc)))) :
    EvE c (.ListComp elt gens scope pos) m H Q := by
  refine EvE.mk fun A env Fs R s E r eo I => ?_
  rw [arm_eval_ListComp]
  refine comp_core hgens hok hns r eo I h fun a C acc H2 s' q ha I' e' k' ⟨mv, hn⟩ cR cB cH cF cL cC => ?_
  refine ⟨mv, hn, fun h' hs' => ?_⟩
  have hT : ∀ o, s'.heap.get? C = some o → ¬ TupO o := fun o e q => by
    obtain ⟨o', es, ep, e', d', _⟩ := hn
    obtain ⟨_, vs, n, d⟩ := q
    rw [e] at e'; (first | exact nsF e' | exact snF e' | cases e'); rw [d] at d'; (first | exact nsF d' | exact snF d' | obtain rfl := Option.some.inj d' | cases d')
  obtain ⟨J, tk⟩ := I'.hi.off hs' cR cB cH cF hT
  obtain ⟨mv', hn', hm'⟩ := I'.locs
  refine ⟨.ref a, _, q a ha, rfl, { I' with hi := J, locs := ⟨mv', hn'.sameBut hs' (Ne.symm cL), fun x p z b => let ⟨v, q, d⟩ := hm' x p z b; ⟨v, q, d.keeps tk⟩⟩, cels := fun x hx => ?_, celH := fun x b e => ?_ }, e'.trans Same.heap⟩
  · refine opq fun Gq hGq => ?_
    obtain ⟨b, v, z1, z2, z3⟩ := I'.cels x hx
    refine hGq ?_
    exact ⟨b, v, z1, z2.sameBut hs' (cC x b z1), fun p hp => let ⟨w, q, d⟩ := z3 p hp; ⟨w, q, d.keeps tk⟩⟩
  · obtain ⟨z1, v, z2⟩ := I'.celH x b e
    exact ⟨z1, v, z2.sameBut hs' (cC x b e)⟩
end
end Mine
end
section
open PySem PySem.Calls PyProof.Rows
namespace Mine
section
variable {c : Cx} {m : Vars} {H : HF}
theorem Inv.protect {env : Env} {Fs : List Addr} {R : RF} {h : Heap} {C : Addr} {o : Obj} (I : Inv c env Fs R m H h) (ho : h.get? C = some o) (hH : H C = none) (hL : C ≠ env.locals) (hC : ∀ x b, env.cells.lookup x = some b → b ≠ C) : Inv c env Fs (R.put C o) m H h :=
  { I with
    hi := { I.hi with
      rest := fun b z e => (by
        by_cases hb : b = C
        · obtain rfl := Eq.symm hb; rw [RF.put_self] at e; (first | exact nsF e | exact snF e | obtain rfl := Option.some.inj e | cases e); exact ⟨_, ho, .rfl'⟩
        · rw [RF.put_other hb] at e; exact I.hi.rest b z e)
      mine := fun a x e => (by
        obtain ⟨p, q, r⟩ := I.hi.mine a x e
        exact ⟨p, by rw [RF.put_other (fun w => by rw [w, hH] at e; (first | exact nsF e | exact snF e | cases e))]; exact q, r⟩) }
    locR := (by rw [RF.put_other (Ne.symm hL)]; exact I.locR)
    own := fun x hk ho => (by
      refine opq fun Gq hGq => ?_
      obtain ⟨a, e1, e2, e3, e4⟩ := I.own x hk ho
      refine hGq ?_
      exact ⟨a, e1, by rw [RF.put_other (hC x a e1)]; exact e2, e3, e4⟩) }
theorem Inv.unprotect {env : Env} {Fs : List Addr} {R : RF} {h : Heap} {C : Addr} {o : Obj} (I : Inv c env Fs (R.put C o) m H h) (hR : R C = none) : Inv c env Fs R m H h ∧ H C = none ∧ (∃ o', h.get? C = some o' ∧ Kin o o') ∧ C ≠ env.locals := by
  have hL : C ≠ env.locals := fun w => by have := I.locR; rw [← w, RF.put_self] at this; (first | exact nsF this | exact snF this | obtain rfl := Option.some.inj this | cases this)
  have hH : H C = none := by
    cases e : H C with
    | none => rfl
    | some x => obtain ⟨_, q, _⟩ := I.hi.mine C x e; rw [RF.put_self] at q; (first | exact nsF q | exact snF q | obtain rfl := Option.some.inj q | cases q)
  refine ⟨{ I with
    hi := { I.hi with
      rest := fun b z e => (by
        have hb : b ≠ C := fun w => by rw [w, hR] at e; (first | exact nsF e | exact snF e | cases e)
        exact I.hi.rest b z (by rw [RF.put_other hb]; exact e))
      mine := fun a x e => (by
        obtain ⟨p, q, r⟩ := I.hi.mine a x e
        rw [RF.put_other (fun w => by rw [w, hH] at e; (first | exact nsF e | exact snF e | cases e))] at q
        exact ⟨p, q, r⟩) }
    locR := (by have := I.locR; rw [RF.put_other (Ne.symm hL)] at this; exact this)
    own := fun x hk ho => (by
      refine opq fun Gq hGq => ?_
      obtain ⟨a, e1, e2, e3, e4⟩ := I.own x hk ho
      refine hGq ?_
      by_cases w : a = C
      · rw [w, RF.put_self] at e2; (first | exact nsF e2 | exact snF e2 | cases e2)
      · rw [RF.put_other w] at e2; exact ⟨a, e1, e2, e3, e4⟩) }, hH, I.hi.rest C o (RF.put_self ..), hL⟩
end
/-! calls -/
/-- something that may be called -/
noncomputable def Callee (g : G) : PV → Prop
  | .builtin _ => True
  | .type _ => True
  | .ref a => ∃ o fd, g.h₀.get? a = some o ∧ o.data = .func fd
  | _ => False
section
variable {c : Cx} {m : Vars} {H : HF} {Q : PV → HF → Prop}
noncomputable def EvK (c : Cx) (pos : Pos) (es : List Keyword) (m : Vars) (H : HF) (Q : List (Str × PV) → HF → Prop) : Prop :=
  EvM c (fun env => evalAll ((backToKw pos (keywordEach es env)).map (·.2))) m H (fun h (ps : List (Str × PV)) vs => DenL h (ps.map (·.2)) vs ∧ ps.map (fun p => some p.1) = es.map (·.arg)) (fun p m' H' => m' = m ∧ Q p H')
theorem EvK.bd {pos : Pos} {es : List Keyword} {Q : List (Str × PV) → HF → Prop} {A : Around} {env : Env} {Fs : List Addr} {R : RF} {s : Shared} {E : Value → Shared → Prop} {W} (h : EvK c pos es m H Q) (r : Room c.n Fs A) (eo : EnvOK c A env) (I : Inv c env Fs R m H s.heap)
    (k : ∀ a s' b H', Q b H' → (DenL s'.heap (b.map (·.2)) a ∧ b.map (fun p => some p.1) = es.map (·.arg)) → Inv c env Fs R m H' s'.heap → Same s s' → TupKeep s.heap s'.heap → W a s') :
    wpAny (model c.g.prog c.g.w) A (evalAll ((backToKw pos (keywordEach es env)).map (·.2))) W E s := EvM.bdF h r eo I k
theorem EvK_nil {pos : Pos} {Q : List (Str × PV) → HF → Prop} (h : Q [] H) : EvK c pos [] m H Q :=
  EvM.mk fun A env Fs R s E r eo I => wpAny_pure ⟨[], m, H, ⟨rfl, h⟩, ⟨rfl, rfl⟩, I, Same.rfl'⟩
theorem EvK_cons {pos kp : Pos} {x : Str} {e : Expr} {rest : List Keyword} {Q : List (Str × PV) → HF → Prop} (h : EvE c e m H fun v H1 => EvK c pos rest m H1 fun vs H2 => Q ((x, v) :: vs) H2) : EvK c pos (⟨some x, e, kp⟩ :: rest) m H Q := by
  refine EvM.mk fun A env Fs R s E r eo I => ?_
  show wpAny _ A (do
    let v ← (do let v ← eval e env; standAt pos; pure v : Sem Value)
    return v :: (← holding [v] (evalAll ((backToKw pos (keywordEach rest env)).map (·.2))))) _ E s
  refine wpAny_bind (wpAny_bind (EvE.bd h r eo I fun a s1 p1 H1 q1 d1 I1 e1 k1 => wpAny_bind (wpAny_standAt (wpAny_pure ?_))))
  refine wpAny_bind (wpAny_holding (EvK.bd q1 r eo I1 fun b s2 p2 H2 q2 xq6 I2 e2 k2 => wpAny_pure ?_))
  obtain ⟨d2, n2⟩ := xq6
  exact ⟨(x, p1) :: p2, m, H2, ⟨rfl, q2⟩, ⟨⟨a, b, rfl, d1.keeps k2, d2⟩, by simp [n2]⟩, I2, e1.trans e2⟩
theorem kwNames : ∀ {es : List Keyword} {ps : List (Str × PV)} (pos : Pos) (env : Env), ps.map (fun p => some p.1) = es.map (·.arg) →
    ((backToKw pos (keywordEach es env)).all (·.1.isSome) = true ∧ (backToKw pos (keywordEach es env)).filterMap (·.1) = ps.map (·.1) ∧ (backToKw pos (keywordEach es env)).any (·.1.isNone) = false ∧ (backToKw pos (keywordEach es env)).length = es.length)
  | [], [], _, _, _ => ⟨rfl, rfl, rfl, rfl⟩
  | [], _ :: _, _, _, h => by cases h
  | _ :: _, [], _, _, h => by cases h
  | ⟨n, v, kp⟩ :: es, (x, p) :: ps, pos, env, h => by
    simp only [List.map_cons, List.cons.injEq] at h
    refine opq fun Gq hGq => ?_
    obtain ⟨h1, h2⟩ := h
    obtain ⟨i1, i2, i3, i4⟩ := kwNames pos env h2
    obtain rfl := Eq.symm h1
    refine hGq ?_
    have e : backToKw pos (keywordEach (⟨some x, v, kp⟩ :: es) env) = (some x, (do let v ← eval v env; standAt pos; pure v : Sem Value)) :: backToKw pos (keywordEach es env) := rfl
    rw [e]
    refine ⟨?_, ?_, ?_, ?_⟩
    · rw [List.all_cons, i1]; rfl
    · rw [List.filterMap_cons]; simp only [List.map_cons, i2]
    · rw [List.any_cons, i3]; rfl
    · rw [List.length_cons, i4, List.length_cons]
theorem noStars : ∀ {es : List Expr} (pos : Pos) (env : Env), es.all (fun e => !isStar e) = true → (backTo pos (starEach es env)).any (·.1) = false ∧ (backTo pos (starEach es env)).all (fun x => !x.1) = true
  | [], _, _, _ => ⟨rfl, rfl⟩
  | e :: es, pos, env, h => by
    rw [List.all_cons, Bool.and_eq_true] at h
    obtain ⟨i1, i2⟩ := noStars pos env h.2
    rw [star_of (by simpa using h.1)]
    have q : backTo pos ((false, eval e env) :: starEach es env) = (false, eval e env) :: backTo pos (starEach es env) := rfl
    rw [q]
    exact ⟨by rw [List.any_cons, i1]; rfl, by rw [List.all_cons, i2]; rfl⟩
theorem backTo_shape (es : List Expr) (pos : Pos) (env : Env) (h : es.all (fun e => !isStar e) = true) (x : Sem Value) : backTo pos (starEach es env) ≠ [(true, x)] := fun e => by
  have := (noStars pos env h).1
  rw [e] at this; (first | exact nsF this | exact snF this | cases this)
theorem swap_m {α : Type} {M : Model} {A : Around} {m m' : Sem α} {Q : α → Shared → Prop} {E : Value → Shared → Prop} {s : Shared} (e : m = m') (h : wpAny M A m' Q E s) : wpAny M A m Q E s := e ▸ h
theorem evalArgs_plain {A : Around} {s : Shared} {E : Value → Shared → Prop} {f : Value} {L : List (Bool × Sem Value)} {KW : List (Option Str × Sem Value)} {K : Args → Shared → Prop} {M : Model}
    (hs : ∀ x, L ≠ [(true, x)]) (hk : KW.all (·.1.isSome) = true)
    (h : wpAny M A (spliced L) (fun vs s1 => wpAny M A (evalAll (KW.map (·.2))) (fun kvs s2 => K ⟨vs, (KW.filterMap (·.1)).zip kvs⟩ s2) E s1) E s) :
    wpAny M A (evalArgs f true L KW) K E s := by
  unfold evalArgs
  extract_lets jp
  refine swap_m (m' := do let r ← spliced L; jp (r, none)) ?_ (wpAny_bind (wpAny_mono h (fun vs s1 h1 => ?_) fun _ _ x => x))
  · rcases L with _ | ⟨⟨_ | _, x⟩, _ | ⟨q, r⟩⟩ <;> first | exact absurd rfl (hs _) | rfl
  refine wpAny_holding ?_
  dsimp only
  rw [if_pos hk]
  refine wpAny_bind (wpAny_mono h1 (fun kvs s2 h2 => ?_) fun _ _ x => x)
  exact wpAny_bind (wpAny_pure (wpAny_pure h2))
theorem callWith_any {A : Around} {env : Env} {s : Shared} {E : Value → Shared → Prop} {pos : Pos} {f : Value} {first : List Value} {args : List Expr} {kws : List Keyword} {K : Value → Shared → Prop} {ps : List Str} {M : Model}
    (ha : args.all (fun e => !isStar e) = true) (hk : (backToKw pos (keywordEach kws env)).all (·.1.isSome) = true) (hn : (backToKw pos (keywordEach kws env)).any (·.1.isNone) = false)
    (h : wpAny M A (spliced (backTo pos (starEach args env))) (fun vs s1 => wpAny M A (evalAll ((backToKw pos (keywordEach kws env)).map (·.2))) (fun kvs s2 =>
      ((∀ a, f ≠ .ref a) ∨ ∃ a o fd, f = .ref a ∧ s2.heap.get? a = some o ∧ o.data = .func fd) ∧ wpAny M A (call f (first ++ vs) (((backToKw pos (keywordEach kws env)).filterMap (·.1)).zip kvs)) K E s2) E s1) E s) :
    wpAny M A (callWith pos f first (backTo pos (starEach args env)) (backToKw pos (keywordEach kws env))) K E s := by
  have ev : wpAny M A (evalArgs f true (backTo pos (starEach args env)) (backToKw pos (keywordEach kws env))) (fun a s2 => ((∀ a, f ≠ .ref a) ∨ ∃ a o fd, f = .ref a ∧ s2.heap.get? a = some o ∧ o.data = .func fd) ∧ wpAny M A (call f (first ++ a.pos) a.kw) K E s2) E s := evalArgs_plain (backTo_shape args pos env ha) hk h
  unfold callWith
  refine wpAny_bind (wpAny_holding (wpAny_mono ev (fun a s2 ⟨hf, hc⟩ => ?_) fun _ _ x => x))
  have tail : ∀ {t : Sem Value}, wpAny M A t K E s2 → wpAny M A (t >>= fun r => holding [r] point >>= fun _ => pure r) K E s2 :=
    fun ht => wpAny_bind (wpAny_mono ht (fun r s₂ hr => wpAny_bind (wpAny_holding (wpAny_point (wpAny_pure hr)))) fun _ _ x => x)
  refine wpAny_bind (wpAny_standAt ?_)
  have hs := (noStars pos env ha).1
  rw [hs, hn]
  rcases hf with hf | ⟨b, o, fd, rfl, ho, hd⟩
  · have hkp : keeperOf f = pure .machine := by
      unfold keeperOf
      cases f <;> first | rfl | exact absurd rfl (hf _)
    rw [hkp]
    refine wpAny_bind (wpAny_pure ?_)
    exact tail hc
  · refine wpAny_bind (m := keeperOf (.ref b)) ?_
    unfold keeperOf
    refine wpAny_bind (wpAny_load ho ?_)
    rw [hd]
    refine wpAny_pure ?_
    dsimp only
    first
      | (refine wpAny_ite ?_; split)
      | split
    · exact tail hc
    · exact tail (by unfold callMarked; exact wpAny_keep hc)
theorem kwAll : ∀ {es : List Keyword} (pos : Pos) (env : Env), es.all (fun k => k.arg.isSome) = true → (backToKw pos (keywordEach es env)).all (·.1.isSome) = true ∧ (backToKw pos (keywordEach es env)).any (·.1.isNone) = false
  | [], _, _, _ => ⟨rfl, rfl⟩
  | ⟨n, v, kp⟩ :: es, pos, env, h => by
    rw [List.all_cons, Bool.and_eq_true] at h
    obtain ⟨i1, i2⟩ := kwAll pos env h.2
    have e : backToKw pos (keywordEach (⟨n, v, kp⟩ :: es) env) = (n, (do let v ← eval v env; standAt pos; pure v : Sem Value)) :: backToKw pos (keywordEach es env) := rfl
    rw [e]
    obtain ⟨x, rfl⟩ := Option.isSome_iff_exists.mp h.1
    exact ⟨by rw [List.all_cons, i1]; rfl, by rw [List.any_cons, i2]; rfl⟩
theorem EvE_Call {x : Str} {xp pos : Pos} {args : List Expr} {kws : List Keyword} (ha : args.all (fun e => !isStar e) = true) (hkw : kws.all (fun k => k.arg.isSome) = true)
    (h : EvE c (.Name x xp) m H fun f H1 => EvL c pos args m H1 fun vs H2 => EvK c pos kws m H2 fun kv H3 => Callee c.g f ∧ Calls c.g c.n f vs kv H3 Q) : EvE c (.Call (.Name x xp) args kws pos) m H Q := by
  refine EvE.mk fun A env Fs R s E r eo I => wpAny_Call_Name_kw ?_
  refine EvE.bd h r eo I fun f s1 p1 H1 q1 d1 I1 e1 k1 => ?_
  refine callWith_any (ps := []) ha (kwAll pos env hkw).1 (kwAll pos env hkw).2 ?_
  refine EvL.bd q1 r eo I1 fun vs s2 p2 H2 q2 d2 I2 e2 k2 => ?_
  refine EvK.bd q2 r eo I2 fun kvs s3 p3 H3 xq7 xq8 I3 e3 k3 => ?_
  obtain ⟨hc, q3⟩ := xq7
  obtain ⟨d3, n3⟩ := xq8
  have n3' := (kwNames pos env n3).2.1
  rw [n3']
  refine ⟨?_, ?_⟩
  · cases p1 <;> first
      | exact hc.elim
      | (left; intro a q; obtain rfl := Eq.symm q; (first | exact nsF d1 | exact snF d1 | obtain rfl := Option.some.inj d1 | cases d1); done)
      | (obtain ⟨o, fd, h1, h2⟩ := hc
         (first | exact nsF d1 | exact snF d1 | obtain rfl := Option.some.inj d1 | cases d1)
         exact .inr ⟨_, o, fd, rfl, I3.hi.base _ _ h1, h2⟩)
  · show wpAny _ A (call f ([] ++ vs) _) _ E s3
    rw [List.nil_append]
    refine Op.bdI (q3 f vs kvs) r I3 ⟨(d1.keeps k2).keeps k3, d2.keeps k3, d3⟩ fun v s4 p4 H4 q4 d4 I4 e4 k4 => ?_
    exact ⟨p4, H4, q4, d4, I4, ((e1.trans e2).trans e3).trans e4⟩
noncomputable def notCallE : Expr → Bool
  | .Call .. => false
  | _ => true
theorem base_not {o : Expr} (h : notCallE o = true) (name : Str) (env : Env) : attributeBase o name env (eval o env) = eval o env := by
  cases o <;> first | rfl | cases h
theorem meth_list {o : Expr} {name : Str} {apos pos : Pos} {args : List Expr} {id : String} (ha : args.all (fun e => !isStar e) = true) (ho : notCallE o = true) (hl : (apos.endLine == pos.line) = true) (hlen : decide (args.length < 20) = true)
    (slot : Slot "list" name.toString id) (hnm : Str.ofString name.toString = name) (hty : typeOf (.builtin id) = pure (.type "method_descriptor"))
    (h : EvE c o m H fun ov H1 => ∃ a xs, ov = .ref a ∧ H1 a = some (.list xs) ∧ EvL c pos args m H1 fun vs H2 => Calls c.g c.n (.builtin id) (ov :: vs) [] H2 Q) : EvE c (.Call (.Attribute o name apos) args [] pos) m H Q := by
  refine EvE.mk fun A env Fs R s E r eo I => ?_
  have hfew : ((backTo pos (starEach args env)).all (fun x => !x.1) && (backToKw pos (keywordEach [] env)).all (fun x => x.1.isSome)
      && decide (args.length + ([] : List Keyword).length + (if ([] : List Keyword).isEmpty then 0 else 1) < 30)) = true := by
    rw [(noStars pos env ha).2]
    have := of_decide_eq_true hlen
    simp only [Bool.true_and, Bool.and_eq_true, decide_eq_true_eq]
    exact ⟨rfl, by simp; omega⟩
  refine wpAny_Call_method (T := "list") (id := id) (base_not ho name env) hfew hl F.plainAttrs_list (by rw [← hnm]; exact slot) hty ?_
  refine EvE.bd h r eo I fun ov s1 p1 H1 xq9 d1 I1 e1 k1 => ?_
  refine opq fun Gq hGq => ?_
  obtain ⟨a, xs, e, hH, q1⟩ := xq9
  obtain rfl := Eq.symm e
  (first | exact nsF d1 | exact snF d1 | obtain rfl := Option.some.inj d1 | cases d1)
  obtain ⟨_, _, ob, hob, vs, n, rfl, _⟩ := I1.hi.mine a _ hH
  refine hGq ?_
  refine ⟨⟨_, hob, rfl⟩, fun b q => ?_, ?_⟩
  · (first | exact nsF q | exact snF q | obtain rfl := Option.some.inj q | cases q); exact ⟨_, hob, rfl⟩
  · refine callWith_any (ps := []) (kws := []) ha rfl rfl ?_
    refine EvL.bd q1 r eo I1 fun vs s2 p2 H2 q2 d2 I2 e2 k2 => ?_
    refine wpAny_pure ⟨.inl fun _ q => (by cases q), ?_⟩
    refine Op.bdI (q2 (.builtin id) (.ref a :: vs) []) r I2 ⟨rfl, ⟨_, _, rfl, rfl, d2⟩, rfl⟩ fun v s4 p4 H4 q4 d4 I4 e4 k4 => ?_
    exact ⟨p4, H4, q4, d4, I4, (e1.trans e2).trans e4⟩
end
end Mine
end
section
open PySem PySem.Calls PyProof.Rows
namespace Mine
noncomputable def noDup : List Str → Bool
  | [] => true
  | x :: r => !r.contains x && noDup r
theorem bindL_skip (kindOf : Str → Option NameKind) : ∀ (binds : List (Str × Value)) (m : Str → Option Value) (x : Str), x ∉ binds.map (·.1) → bindL kindOf binds m x = m x
  | [], _, _, _ => rfl
  | (n, v) :: r, m, x, h => by
    unfold bindL
    rw [bindL_skip kindOf r _ x (fun q => h (List.mem_cons_of_mem _ q))]
    split
    · exact if_neg fun (q : x = n) => h (by rw [q]; exact List.mem_cons_self)
    · rfl
theorem bindC_skip (kindOf : Str → Option NameKind) : ∀ (binds : List (Str × Value)) (m : Str → Option Value) (x : Str), x ∉ binds.map (·.1) → bindC kindOf binds m x = m x
  | [], _, _, _ => rfl
  | (n, v) :: r, m, x, h => by
    unfold bindC
    rw [bindC_skip kindOf r _ x (fun q => h (List.mem_cons_of_mem _ q))]
    split
    · rfl
    · exact if_neg fun (q : x = n) => h (by rw [q]; exact List.mem_cons_self)
theorem noDup_cons {x : Str} {r : List Str} (h : noDup (x :: r) = true) : x ∉ r ∧ noDup r = true := by
  unfold noDup at h
  rw [Bool.and_eq_true] at h
  exact ⟨by simpa using h.1, h.2⟩
theorem bindL_get {kindOf : Str → Option NameKind} {x : Str} (hk : kindOf x = some .local) : ∀ {binds : List (Str × Value)} {m : Str → Option Value} {v : Value}, noDup (binds.map (·.1)) = true → binds.lookup x = some v → bindL kindOf binds m x = some v
  | [], _, _, _, h => by cases h
  | (n, w) :: r, m, v, hn, h => by
    obtain ⟨h1, h2⟩ := noDup_cons hn
    rw [List.lookup_cons] at h
    unfold bindL
    cases q : x == n with
    | true =>
      rw [q] at h; (first | exact nsF h | exact snF h | cases h)
      have := eq_of_beq q; obtain rfl := Eq.symm this
      rw [bindL_skip _ _ _ _ h1, if_pos hk, if_pos rfl]
    | false => rw [q] at h; exact bindL_get hk h2 h
theorem bindC_get {kindOf : Str → Option NameKind} {x : Str} (hk : kindOf x ≠ some .local) : ∀ {binds : List (Str × Value)} {m : Str → Option Value} {v : Value}, noDup (binds.map (·.1)) = true → binds.lookup x = some v → bindC kindOf binds m x = some v
  | [], _, _, _, h => by cases h
  | (n, w) :: r, m, v, hn, h => by
    obtain ⟨h1, h2⟩ := noDup_cons hn
    rw [List.lookup_cons] at h
    unfold bindC
    cases q : x == n with
    | true =>
      rw [q] at h; (first | exact nsF h | exact snF h | cases h)
      have := eq_of_beq q; obtain rfl := Eq.symm this
      rw [bindC_skip _ _ _ _ h1, if_neg hk, if_pos rfl]
    | false => rw [q] at h; exact bindC_get hk h2 h
noncomputable def BDen (h : Heap) (pb : Vars) (binds : List (Str × Value)) : Prop := binds.map (·.1) = pb.map (·.1) ∧ DenL h (pb.map (·.2)) (binds.map (·.2))
theorem BDen.get {h : Heap} : ∀ {pb : Vars} {binds : List (Str × Value)} {x : Str} {p : PV}, BDen h pb binds → pb.lookup x = some p → ∃ v, binds.lookup x = some v ∧ Den h p v
  | [], _, _, _, _, e => by cases e
  | (n, q) :: pb, [], _, _, ⟨e1, _⟩, _ => by cases e1
  | (n, q) :: pb, (n', w) :: binds, x, p, ⟨e1, e2⟩, e => by
    simp only [List.map_cons, List.cons.injEq] at e1
    obtain ⟨rfl, e1⟩ := e1
    obtain ⟨d1, d2⟩ := DenL.cons_inv e2
    rw [List.lookup_cons] at e ⊢
    cases z : x == n' with
    | true => rw [z] at e; (first | exact nsF e | exact snF e | cases e); exact ⟨w, rfl, d1⟩
    | false => rw [z] at e; exact BDen.get ⟨e1, d2⟩ e
/-- what the parameters become -/
noncomputable def Binds (g : G) (fd : FuncData) (vs : List PV) (kw : List (Str × PV)) (pb : Vars) : Prop :=
  ∀ (s : Shared) (vvs kvs : List Value), (∀ b o, g.h₀.get? b = some o → s.heap.get? b = some o) → DenL s.heap vs vvs → DenL s.heap (kw.map (·.2)) kvs → ∃ binds, BindsTo s fd ⟨vvs, (kw.map (·.1)).zip kvs⟩ binds ∧ BDen s.heap pb binds
noncomputable def retV : Fl → PV
  | .ret v => v
  | _ => .none
noncomputable def fnOK (sc : Scope) (pb : Vars) : Bool :=
  sc.kind == .function && !sc.isCoroutine && !sc.isGenerator && sc.names.all (fun x => x.2 != .free) && noDup (pb.map (·.1)) && pb.all (fun x => sc.names.lookup x.1 == some .local || sc.names.lookup x.1 == some .cell)
/-- within a function -/
noncomputable abbrev fnCx (g : G) (n : Nat) (sc : Scope) (cd : Value) : Cx := ⟨g, n, true, fun x => sc.names.lookup x == some .cell, sc, cd⟩
theorem call_core {g : G} {n : Nat} {a : Addr} {o : Obj} {fd : FuncData} {body : List Stmt} {vs : List PV} {kw : List (Str × PV)} {pb : Vars} {H : HF} (ho : g.h₀.get? a = some o) (hd : o.data = .func fd) (hbody : fd.body = .stmts body) (hok : fnOK fd.scope pb = true)
    (hclo : fd.closure = []) (hgl : fd.globals = mainGlobals) (hbl : fd.builtins = builtinsNs) (hcd : g.h₀.CodeRec fd.code fd.qualname) (hb : Binds g fd vs kw pb)
    {A : Around} {Fs : List Addr} {R : RF} {s : Shared} {E : Value → Shared → Prop} {K : Value → Shared → Prop} {vvs kvs : List Value} (r : Room (n + 1) Fs A) (I : HI g Fs R H s.heap) (d2 : DenL s.heap vs vvs) (d3 : DenL s.heap (kw.map (·.2)) kvs)
    (h : ∀ (env : Env) (s' : Shared) (l : List Env), A.frames = some l → env.frame = some env.locals → Room n (env.locals :: Fs) (A.deeper env) → EnvOK (fnCx g n fd.scope fd.code) (A.deeper env) env → Inv (fnCx g n fd.scope fd.code) env (env.locals :: Fs) R pb H s'.heap → Ext s.heap s'.heap → Same s s' → (A.deeper env).frames = some (env :: l) →
      wpAny (model g.prog g.w) (A.deeper env) (execs body env) (fun f s2 => K (match f with | .ret v => v | _ => .none) s2) (fun e s2 => wpAny (model g.prog g.w) (A.deeper env) (leaving env e) (fun _ s3 => E e s3) (fun e' s3 => E e' s3) s2) s') :
    wpAny (model g.prog g.w) A (call (.ref a) vvs ((kw.map (·.1)).zip kvs)) K E s := by
  unfold fnOK at hok
  simp only [Bool.and_eq_true] at hok
  refine opq fun Gq hGq => ?_
  obtain ⟨⟨⟨⟨⟨k1, k2⟩, k3⟩, k4⟩, k5⟩, k6⟩ := hok
  have k1 : fd.scope.kind = .function := by simpa using k1
  have k2 : fd.scope.isCoroutine = false := by simpa using k2
  have k3 : fd.scope.isGenerator = false := by simpa using k3
  rw [List.all_eq_true] at k4 k6
  obtain ⟨binds, hbind, hbd⟩ := hb s vvs kvs I.base d2 d3
  obtain ⟨rh, rd, ru, l, rf, rl, rk⟩ := r
  refine hGq ?_
  have bmem : ∀ x ∈ binds, fd.scope.names.lookup x.1 = some .local ∨ fd.scope.names.lookup x.1 = some .cell := fun x hx => by
    have : x.1 ∈ pb.map (·.1) := by rw [← hbd.1]; exact List.mem_map_of_mem hx
    obtain ⟨y, hy, e⟩ := List.mem_map.mp this
    have := k6 y hy
    rw [e] at this
    simpa using this
  refine wpAny_call (codeAny_call_function (by show A.depth < 1000; with_reducible exact un5 (by assumption)) (I.base _ _ ho) hd k2 k3 hbody (hcd.keeps I.base) ?_)
  refine hbind _ _ _ _ ?_
  rw [hclo]
  refine wpAny_newFunctionEnv_cells k1 (fun x hx => (bmem x hx).imp id fun e => ⟨e, cellsFrom_some' (.inl (lookup_mem' e))⟩) fun env he s' X => ?_
  have hx := X.toInCall
  have keep := hx.keep
  have kE : Ext s.heap s'.heap := keep
  have hL : s.heap.objs.size ≤ env.locals := hx.fresh
  have big : ∀ d, s.heap.objs.size ≤ d → s.heap.get? d = none := fun d hd => by
    cases q : s.heap.get? d with
    | none => rfl
    | some z => exact absurd (Heap.lt_size q) (Nat.not_lt.mpr hd)
  have bigB : ∀ d, s.heap.objs.size ≤ d → g.h₀.get? d = none := fun d hd => by
    cases q : g.h₀.get? d with
    | none => rfl
    | some z => have := big d hd; rw [I.base d z q] at this; (first | exact nsF this | exact snF this | obtain rfl := Option.some.inj this | cases this)
  have bigH : ∀ d, s.heap.objs.size ≤ d → H d = none := fun d hd => by
    cases q : H d with
    | none => rfl
    | some z => obtain ⟨_, _, o2, q2, _⟩ := I.mine d z q; rw [big d hd] at q2; (first | exact nsF q2 | exact snF q2 | obtain rfl := Option.some.inj q2 | cases q2)
  have bigR : ∀ d, s.heap.objs.size ≤ d → R d = none := fun d hd => by
    cases q : R d with
    | none => rfl
    | some z => obtain ⟨o2, q2, _⟩ := I.rest d z q; rw [big d hd] at q2; (first | exact nsF q2 | exact snF q2 | obtain rfl := Option.some.inj q2 | cases q2)
  have eloc : env.locals = s.heap.objs.size := by rw [he]; rfl
  have esc : env.scope = fd.scope := by rw [he]; rfl
  have efr : env.frame = some env.locals := by rw [he]; rfl
  have ecl : env.cells = cellsFrom (s.heap.objs.size + 1) fd.scope.names [] := by rw [he]; rfl
  have ekind : ∀ x, env.kindOf x = fd.scope.names.lookup x := fun x => by unfold Env.kindOf; rw [esc]
  have bnd : noDup (binds.map (·.1)) = true := by rw [hbd.1]; exact k5
  have hbd' : BDen s'.heap pb binds := ⟨hbd.1, hbd.2.keeps kE.tup⟩
  have J : Inv ⟨g, n, true, fun x => fd.scope.names.lookup x == some .cell, fd.scope, fd.code⟩ env (env.locals :: Fs) R pb H s'.heap := {
    hi := { (I.ext kE) with
      frs := fun L hL' => by
        rcases List.mem_cons.mp hL' with rfl | hL'
        · refine opq fun Gq hGq => ?_
          obtain ⟨o2, es, ep, q1, q2, _⟩ := hx.ns
          refine hGq ?_
          exact ⟨bigB _ hL, bigH _ hL, o2, es, ep, q1, q2⟩
        · exact (I.ext kE).frs L hL' }
    locR := bigR _ hL
    locB := bigB _ hL
    locH := bigH _ hL
    locs := ⟨_, hx.ns, fun x p e hk => by
      obtain ⟨v, q1, q2⟩ := hbd'.get e
      exact ⟨v, bindL_get (by rw [ekind]; exact hk) bnd q1, q2⟩⟩
    cels := fun x hk => by
      have hk' : fd.scope.names.lookup x = some .cell := by
        rcases hk with hk | hk
        · exact hk
        · have := k4 _ (lookup_mem' (show fd.scope.names.lookup x = some .free from hk)); simp at this
      obtain ⟨a, ha⟩ := Option.isSome_iff_exists.mp (cellsFrom_some' (n := s.heap.objs.size + 1) (acc := []) (.inl (lookup_mem' hk')))
      rw [← ecl] at ha
      refine ⟨a, _, ha, X.cell x a ha, fun p e => ?_⟩
      obtain ⟨v, q1, q2⟩ := hbd'.get e
      exact ⟨v, bindC_get (by rw [ekind, hk']; decide) bnd q1, q2⟩
    celH := fun x a e => ⟨bigH a (Nat.le_trans hL (Nat.le_of_lt (X.above x a (lookup_mem' e)))), _, X.cell x a e⟩
    own := fun x hk hw => by
      obtain ⟨a, ha⟩ := Option.isSome_iff_exists.mp (cellsFrom_some' (n := s.heap.objs.size + 1) (acc := []) (.inl (lookup_mem' (show fd.scope.names.lookup x = some .cell from hk))))
      rw [← ecl] at ha
      have hLa : s.heap.objs.size ≤ a := Nat.le_trans hL (Nat.le_of_lt (X.above x a (lookup_mem' ha)))
      refine ⟨a, ha, bigR a hLa, bigB a hLa, fun y d hy e q => ?_⟩
      obtain rfl := Eq.symm q
      exact hy (name_of_addr X.apart (lookup_mem' e) (lookup_mem' ha)) }
  have eo : EnvOK ⟨g, n, true, fun x => fd.scope.names.lookup x == some .cell, fd.scope, fd.code⟩ (A.deeper env) env := by
    refine ⟨esc, k1, by rw [he]; exact hgl, by rw [he]; exact hbl, by rw [he]; rfl, fun _ => ⟨fd.qualname, hcd, by rw [he]; rfl⟩, fun _ => ⟨l, ?_, efr⟩⟩
    show A.frames.map _ = _
    rw [rf]; rfl
  have r' : Room n (env.locals :: Fs) (A.deeper env) := by
    refine ⟨rh, ?_, ?_, env :: l, ?_, ?_, ?_⟩
    · show A.depth + 1 + n < 900; with_reducible exact un3 (by assumption)
    · show A.units + 3 + 20 * n < 9000; with_reducible exact un1 (by assumption)
    · show A.frames.map _ = _
      rw [rf]; rfl
    · rw [List.map_cons, List.map_cons, rl, efr]
    · intro e he'
      rcases List.mem_cons.mp he' with rfl | he'
      · rw [esc, k1]; decide
      · exact rk e he'
  have hsame : Same s s' := by
    obtain ⟨h1, tk, e⟩ := hx.same
    rw [e]; exact Same.mk
  refine ⟨g.nolimit.keeps (fun b o e => kE _ _ (I.base b o e)), codeAny_func ?_⟩
  exact wpAny_mono (h env s' l rf efr r' eo J kE hsame (by show A.frames.map _ = _; rw [rf]; rfl)) (fun f s2 x => by cases f <;> exact x) fun _ _ x => x
theorem calls_fn {g : G} {n : Nat} {a : Addr} {o : Obj} {fd : FuncData} {body : List Stmt} {vs : List PV} {kw : List (Str × PV)} {pb : Vars} {H : HF} {Q : PV → HF → Prop} (ho : g.h₀.get? a = some o) (hd : o.data = .func fd) (hbody : fd.body = .stmts body) (hok : fnOK fd.scope pb = true)
    (hclo : fd.closure = []) (hgl : fd.globals = mainGlobals) (hbl : fd.builtins = builtinsNs) (hcd : g.h₀.CodeRec fd.code fd.qualname) (hb : Binds g fd vs kw pb)
    (h : EvSs (fnCx g n fd.scope fd.code) body pb H (fun fl _ H' => ∃ H'', H''.Le H' ∧ Q (retV fl) H'')) : Calls g (n + 1) (.ref a) vs kw H Q := by
  intro fv vvs kvs
  refine Op.mk fun A Fs R s E r I p => ?_
  refine opq fun Gq hGq => ?_
  obtain ⟨d1, d2, d3⟩ := p
  (first | exact nsF d1 | exact snF d1 | obtain rfl := Option.some.inj d1 | cases d1)
  refine hGq ?_
  refine call_core ho hd hbody hok hclo hgl hbl hcd hb r I d2 d3 fun env s' l rf efr r' eo J kE hsame hfr => ?_
  refine EvM.bd h r' eo J fun f s2 fl m2 H2 xq10 d2 J2 e2 k2 => ?_
  obtain ⟨H3, hle, hq⟩ := xq10
  have fin : HI g Fs R H2 s2.heap := { J2.hi with frs := fun L hL => J2.hi.frs L (List.mem_cons_of_mem _ hL) }
  have fin' := fin.less hle
  cases fl with
  | ret v => obtain ⟨w, rfl, d⟩ := d2; exact ⟨v, H3, hq, d, fin', hsame.trans e2⟩
  | next => (first | exact nsF d2 | exact snF d2 | obtain rfl := Option.some.inj d2 | cases d2); exact ⟨.none, H3, hq, rfl, fin', hsame.trans e2⟩
  | brk => (first | exact nsF d2 | exact snF d2 | obtain rfl := Option.some.inj d2 | cases d2); exact ⟨.none, H3, hq, rfl, fin', hsame.trans e2⟩
  | cont => (first | exact nsF d2 | exact snF d2 | obtain rfl := Option.some.inj d2 | cases d2); exact ⟨.none, H3, hq, rfl, fin', hsame.trans e2⟩
end Mine
end
section
open PySem PySem.Calls PyProof.Rows
namespace Mine
section
variable {g : G} {n : Nat} {H : HF} {Q : PV → HF → Prop} {x y : Int}
theorem bin_add (h : Q (.int (x + y)) H) : BinO g n .Add (.int x) (.int y) H Q := fun va vb => Op.mk fun A Fs R s E r I p => by
  obtain ⟨⟨t, rfl⟩, ⟨u, rfl⟩⟩ := p; exact PyProof.Rows.add_int ⟨_, H, h, ⟨_, rfl⟩, I, Same.toks⟩
theorem bin_sub (h : Q (.int (x - y)) H) : BinO g n .Sub (.int x) (.int y) H Q := fun va vb => Op.mk fun A Fs R s E r I p => by
  obtain ⟨⟨t, rfl⟩, ⟨u, rfl⟩⟩ := p; exact PyProof.Rows.sub_int ⟨_, H, h, ⟨_, rfl⟩, I, Same.toks⟩
theorem bits_le {z : Int} (h : z.natAbs < 2 ^ 64) : Builtin.Int.intBits z ≤ 64 := by
  unfold Builtin.Int.intBits
  split
  · decide
  · rename_i hz
    have h0 : z.natAbs ≠ 0 := fun e => hz (by rw [Int.natAbs_eq_zero.mp e]; rfl)
    have := (Nat.log2_lt h0).mpr h
    with_reducible exact Nat.succ_le_of_lt (by assumption)
theorem bin_mul (hx : x.natAbs < 2 ^ 64) (h : Q (.int (x * y)) H) : BinO g n .Mult (.int x) (.int y) H Q := fun va vb => Op.mk fun A Fs R s E r I p => by
  obtain ⟨⟨t, rfl⟩, ⟨u, rfl⟩⟩ := p; exact PyProof.Rows.mul_int ⟨_, H, h, ⟨_, rfl⟩, I, Same.toks⟩ (IntMulOk.of_left (bits_le hx))
theorem bin_mod (hy : y ≠ 0) (h : Q (.int (x.fmod y)) H) : BinO g n .Mod (.int x) (.int y) H Q := fun va vb => Op.mk fun A Fs R s E r I p => by
  obtain ⟨⟨t, rfl⟩, ⟨u, rfl⟩⟩ := p; exact PyProof.Rows.mod_int' hy ⟨_, H, h, ⟨_, rfl⟩, I, Same.toks⟩
theorem bin_div (hy : y ≠ 0) (hb : y.natAbs < 1073741824) (h : Q (.int (x.fdiv y)) H) : BinO g n .FloorDiv (.int x) (.int y) H Q := fun va vb => Op.mk fun A Fs R s E r I p => by
  obtain ⟨⟨t, rfl⟩, ⟨u, rfl⟩⟩ := p; exact PyProof.Rows.floordiv_int hy ⟨_, H, h, ⟨_, rfl⟩, I, Same.toks⟩ (.inl (PyProof.noPylong_small hb))
theorem bin_shl (hy : 0 ≤ y) (hy2 : y ≤ 1000000) (hx : x.natAbs < 2 ^ 64) (h : Q (.int (x * 2 ^ y.toNat)) H) : BinO g n .LShift (.int x) (.int y) H Q := fun va vb => Op.mk fun A Fs R s E r I p => by
  obtain ⟨⟨t, rfl⟩, ⟨u, rfl⟩⟩ := p; exact PyProof.Rows.lshift_int_small hy hy2 hx ⟨_, H, h, ⟨_, rfl⟩, I, Same.toks⟩
theorem bin_shr (hy : 0 ≤ y) (h : Q (.int (x.fdiv (2 ^ y.toNat))) H) : BinO g n .RShift (.int x) (.int y) H Q := fun va vb => Op.mk fun A Fs R s E r I p => by
  obtain ⟨⟨t, rfl⟩, ⟨u, rfl⟩⟩ := p; exact PyProof.Rows.rshift_int hy ⟨_, H, h, ⟨_, rfl⟩, I, Same.toks⟩
theorem bin_and (h : Q (.int (Builtin.bitAnd x y)) H) : BinO g n .BitAnd (.int x) (.int y) H Q := fun va vb => Op.mk fun A Fs R s E r I p => by
  obtain ⟨⟨t, rfl⟩, ⟨u, rfl⟩⟩ := p; exact PyProof.Rows.and_int ⟨_, H, h, ⟨_, rfl⟩, I, Same.toks⟩
theorem bin_or (h : Q (.int (Builtin.bitOr x y)) H) : BinO g n .BitOr (.int x) (.int y) H Q := fun va vb => Op.mk fun A Fs R s E r I p => by
  obtain ⟨⟨t, rfl⟩, ⟨u, rfl⟩⟩ := p; exact PyProof.Rows.or_int ⟨_, H, h, ⟨_, rfl⟩, I, Same.toks⟩
theorem bin_xor (h : Q (.int (Builtin.bitXor x y)) H) : BinO g n .BitXor (.int x) (.int y) H Q := fun va vb => Op.mk fun A Fs R s E r I p => by
  obtain ⟨⟨t, rfl⟩, ⟨u, rfl⟩⟩ := p; exact PyProof.Rows.xor_int ⟨_, H, h, ⟨_, rfl⟩, I, Same.toks⟩
theorem ibin_add (h : Q (.int (x + y)) H) : IBinO g n .Add (.int x) (.int y) H Q := fun va vb => Op.mk fun A Fs R s E r I p => by
  obtain ⟨⟨t, rfl⟩, ⟨u, rfl⟩⟩ := p; exact PyProof.Rows.iadd_int ⟨_, H, h, ⟨_, rfl⟩, I, Same.toks⟩
theorem ibin_shl (hy : 0 ≤ y) (hy2 : y ≤ 1000000) (hx : x.natAbs < 2 ^ 64) (h : Q (.int (x * 2 ^ y.toNat)) H) : IBinO g n .LShift (.int x) (.int y) H Q := fun va vb => Op.mk fun A Fs R s E r I p => by
  obtain ⟨⟨t, rfl⟩, ⟨u, rfl⟩⟩ := p; exact PyProof.Rows.ilshift_int_small hy hy2 hx ⟨_, H, h, ⟨_, rfl⟩, I, Same.toks⟩
theorem ibin_or (h : Q (.int (Builtin.bitOr x y)) H) : IBinO g n .BitOr (.int x) (.int y) H Q := fun va vb => Op.mk fun A Fs R s E r I p => by
  obtain ⟨⟨t, rfl⟩, ⟨u, rfl⟩⟩ := p; exact PyProof.Rows.ior_int ⟨_, H, h, ⟨_, rfl⟩, I, Same.toks⟩
theorem cmp_lt (h : Q (.bool (decide (x < y))) H) : CmpO g n .Lt (.int x) (.int y) H Q := fun va vb => Op.mk fun A Fs R s E r I p => by
  obtain ⟨⟨t, rfl⟩, ⟨u, rfl⟩⟩ := p; exact PyProof.Rows.lt_int ⟨_, H, h, rfl, I, Same.rfl'⟩
theorem cmp_le (h : Q (.bool (decide (x ≤ y))) H) : CmpO g n .LtE (.int x) (.int y) H Q := fun va vb => Op.mk fun A Fs R s E r I p => by
  obtain ⟨⟨t, rfl⟩, ⟨u, rfl⟩⟩ := p; exact PyProof.Rows.le_int ⟨_, H, h, rfl, I, Same.rfl'⟩
theorem cmp_gt (h : Q (.bool (decide (y < x))) H) : CmpO g n .Gt (.int x) (.int y) H Q := fun va vb => Op.mk fun A Fs R s E r I p => by
  obtain ⟨⟨t, rfl⟩, ⟨u, rfl⟩⟩ := p; exact PyProof.Rows.gt_int ⟨_, H, h, rfl, I, Same.rfl'⟩
theorem cmp_ge (h : Q (.bool (decide (y ≤ x))) H) : CmpO g n .GtE (.int x) (.int y) H Q := fun va vb => Op.mk fun A Fs R s E r I p => by
  obtain ⟨⟨t, rfl⟩, ⟨u, rfl⟩⟩ := p; exact PyProof.Rows.ge_int ⟨_, H, h, rfl, I, Same.rfl'⟩
theorem cmp_eq (h : Q (.bool (x == y)) H) : CmpO g n .Eq (.int x) (.int y) H Q := fun va vb => Op.mk fun A Fs R s E r I p => by
  obtain ⟨⟨t, rfl⟩, ⟨u, rfl⟩⟩ := p; exact PyProof.Rows.eq_int ⟨_, H, h, rfl, I, Same.rfl'⟩
theorem cmp_ne (h : Q (.bool (x != y)) H) : CmpO g n .NotEq (.int x) (.int y) H Q := fun va vb => Op.mk fun A Fs R s E r I p => by
  obtain ⟨⟨t, rfl⟩, ⟨u, rfl⟩⟩ := p; exact PyProof.Rows.ne_int ⟨_, H, h, rfl, I, Same.rfl'⟩
noncomputable def isNoneB : PV → Bool
  | .none => true
  | _ => false
theorem none_of {h : Heap} : ∀ {a : PV} {va : Value}, Den h a va → (va == .none) = isNoneB a
  | .none, _, e => by cases e; rfl
  | .bool _, _, e => by cases e; rfl
  | .int _, _, ⟨_, e⟩ => by cases e; rfl
  | .bytes _, _, ⟨_, e⟩ => by cases e; rfl
  | .str _, _, ⟨_, e⟩ => by cases e; rfl
  | .ref _, _, e => by cases e; rfl
  | .type _, _, e => by cases e; rfl
  | .builtin _, _, e => by cases e; rfl
  | .tup _, _, ⟨_, _, e, _⟩ => by cases e; rfl
theorem cmp_is_none {a : PV} (h : Q (.bool (isNoneB a)) H) : CmpO g n .Is a .none H Q := fun va vb => Op.mk fun A Fs R s E r I p => by
  obtain ⟨d1, rfl⟩ := p
  exact is_none (by rw [none_of d1]; exact ⟨_, H, h, rfl, I, Same.rfl'⟩)
theorem cmp_isnot_none {a : PV} (h : Q (.bool (!isNoneB a)) H) : CmpO g n .IsNot a .none H Q := fun va vb => Op.mk fun A Fs R s E r I p => by
  obtain ⟨d1, rfl⟩ := p
  exact isNot_none (by rw [none_of d1]; exact ⟨_, H, h, rfl, I, Same.rfl'⟩)
theorem cmp_is_type {a b : String} (h : Q (.bool (a == b)) H) : CmpO g n .Is (.type a) (.type b) H Q := fun va vb => Op.mk fun A Fs R s E r I p => by
  obtain ⟨rfl, rfl⟩ := p
  refine wpAny_is_plain rfl ⟨_, H, h, ?_, I, Same.rfl'⟩
  show _ = Value.bool (a == b)
  congr 1
  by_cases e : a = b
  · subst e; simp
  · rw [beq_eq_false_iff_ne.mpr e, beq_eq_false_iff_ne.mpr (fun q => e (by injection q))]
theorem cmp_is_intref {a : Addr} (h : Q (.bool false) H) : CmpO g n .Is (.int x) (.ref a) H Q := fun va vb => Op.mk fun A Fs R s E r I p => by
  refine opq fun Gq hGq => ?_
  obtain ⟨⟨t, rfl⟩, rfl⟩ := p
  refine hGq ?_
  exact wpAny_is_plain rfl ⟨_, H, h, rfl, I, Same.rfl'⟩
theorem cmp_is_self {a : Addr} (h : Q (.bool true) H) : CmpO g n .Is (.ref a) (.ref a) H Q := fun va vb => Op.mk fun A Fs R s E r I p => by
  obtain ⟨rfl, rfl⟩ := p
  exact wpAny_is_ref_self ⟨_, H, h, rfl, I, Same.rfl'⟩
theorem tru_bool {b : Bool} {Q : Bool → HF → Prop} (h : Q b H) : TruO g n (.bool b) H Q := fun va => Op.mk fun A Fs R s E r I p => by
  cases p; exact wpAny_truthy_bool ⟨b, H, h, rfl, I, Same.rfl'⟩
theorem tru_int {Q : Bool → HF → Prop} (h : Q (x != 0) H) : TruO g n (.int x) H Q := fun va => Op.mk fun A Fs R s E r I p => by
  obtain ⟨t, rfl⟩ := p; exact PyProof.Rows.truthy_int ⟨_, H, h, rfl, I, Same.rfl'⟩
end
end Mine
end
section
open PySem PySem.Calls PyProof.Rows
namespace Mine
section
variable {g : G} {n : Nat} {H : HF} {Q : PV → HF → Prop}
theorem mineL {Fs : List Addr} {R : RF} {h : Heap} {a : Addr} {xs : List PV} (I : HI g Fs R H h) (e : H a = some (.list xs)) : ∃ vs k, IsL h a vs k ∧ DenL h xs vs.toList := by
  refine opq fun Gq hGq => ?_
  obtain ⟨_, _, o, h1, vs, k, rfl, h5⟩ := I.mine a _ e
  refine hGq ?_
  exact ⟨vs, k, h1, h5⟩
theorem denSize {h : Heap} {xs : List PV} {vs : Array Value} (d : DenL h xs vs.toList) : vs.size = xs.length := by
  have := d.length; simpa using this
theorem big_size {k : Nat} (h : k ≤ 100000) : (k : Int) < 2 ^ 63 := by with_reducible exact si5 (by assumption)
theorem calls_len {a : Addr} {xs : List PV} (hH : H a = some (.list xs)) (hn : xs.length ≤ 100000) (h : Q (.int xs.length) H) : Calls g n (.builtin "len") [.ref a] [] H Q := fun fv vvs kvs => Op.mk fun A Fs R s E r I p => by
  refine opq fun Gq hGq => ?_
  obtain ⟨rfl, ⟨v, vs', rfl, rfl, rfl⟩, rfl⟩ := p
  obtain ⟨vs, k, h1, h2⟩ := mineL I hH
  refine hGq ?_
  have := denSize h2
  exact Calls.call_len_list h1.isList (by rw [this]; exact big_size hn) ⟨.int xs.length, H, h, ⟨_, by rw [this]⟩, I, Same.mk⟩
theorem tru_list {a : Addr} {xs : List PV} {Q : Bool → HF → Prop} (hH : H a = some (.list xs)) (hn : xs.length ≤ 100000) (h : Q (!xs.isEmpty) H) : TruO g n (.ref a) H Q := fun va => Op.mk fun A Fs R s E r I p => by
  refine opq fun Gq hGq => ?_
  cases p
  obtain ⟨vs, k, h1, h2⟩ := mineL I hH
  refine hGq ?_
  have e := denSize h2
  refine wpAny_truthy_list h1.isList (by rw [e]; exact big_size hn) ⟨_, H, h, ?_, I, Same.mk⟩
  show _ = _
  congr 1
  cases xs with
  | nil => simp at e; simp [e]
  | cons x r => simp only [Array.isEmpty, e]; simp
noncomputable def notSlice : Expr → Bool
  | .Slice .. => false
  | _ => true
theorem subs_of {i : Expr} (h : notSlice i = true) (o k : Value) : subscripted i false o k = operate [o, k] (getItem o k) := by
  cases i <;> first | rfl | cases h
theorem sub_list {v i : Expr} {a : Addr} {xs : List PV} {k : Int} {p : PV} (hs : notSlice i = true) (hH : H a = some (.list xs)) (h0 : 0 ≤ k) (h1 : k < 100000) (hp : xs[k.toNat]? = some p) (h : Q p H) : SubO g n v i (.ref a) (.int k) H Q := fun vo vi => Op.mk fun A Fs R s E r I d => by
  refine opq fun Gq hGq => ?_
  obtain ⟨rfl, ⟨t, rfl⟩⟩ := d
  obtain ⟨vs, j, e1, e2⟩ := mineL I hH
  obtain ⟨w, e3, e4⟩ := e2.get hp
  refine hGq ?_
  exact tail_any e1.isList.typeIs slot_list_getitem.lookup (wpAny_getItem_list e1.isList h0 (by with_reducible exact si1 (by assumption)) (by simpa using e3) ⟨p, H, h, e4, I, Same.rfl'⟩) (subs_of hs _ _)
theorem sub_tup {v i : Expr} {xs : List PV} {k : Int} {p : PV} (hs : notSlice i = true) (h0 : 0 ≤ k) (h1 : k < 100000) (hp : xs[k.toNat]? = some p) (h : Q p H) : SubO g n v i (.tup xs) (.int k) H Q := fun vo vi => Op.mk fun A Fs R s E r I d => by
  refine opq fun Gq hGq => ?_
  obtain ⟨⟨a, vs, rfl, e1, e2⟩, ⟨t, rfl⟩⟩ := d
  obtain ⟨w, e3, e4⟩ := e2.get hp
  refine hGq ?_
  have hlt : k.toNat < vs.toList.length := (List.getElem?_eq_some_iff.mp e3).1
  have hT : s.TypeIs (.ref a) "tuple" := ⟨_, e1, rfl⟩
  refine tail_any hT PyProof.Rows.slot_tuple_getitem.lookup (PyProof.Rows.getItem_tuple (j := k.toNat) ⟨_, e1, rfl, _, rfl⟩ (by with_reducible exact si2 (by assumption)) (by with_reducible exact si1 (by assumption)) ?_ (by simpa using e3) ⟨p, H, h, e4, I, Same.rfl'⟩) (subs_of hs _ _)
  unfold seqIndex?
  have hlt' : k.toNat < vs.size := by simpa using hlt
  have hn : ¬ k < 0 := by (intro _; with_reducible exact si3 (by assumption) (by assumption))
  simp only [hn, if_false]
  rw [if_pos (by simp; with_reducible exact si7 (by assumption) (by assumption))]
theorem sub_bytes {v i : Expr} {b : List UInt8} {k : Int} (hs : notSlice i = true) (h0 : 0 ≤ k) (h1 : k < b.length) (hb : b.length ≤ 100000) (h : Q (.int (b.getD k.toNat 0).toNat) H) : SubO g n v i (.bytes b) (.int k) H Q := fun vo vi => Op.mk fun A Fs R s E r I d => by
  refine opq fun Gq hGq => ?_
  obtain ⟨⟨t, rfl⟩, ⟨u, rfl⟩⟩ := d
  refine hGq ?_
  refine tail_any (PySem.W.typeIs_bytes s _ t) PySem.W.FB.slot_bytes_getitem.lookup (PySem.W.getItem_bytes (by with_reducible exact Nat.le_trans (by assumption) (by decide)) h0 h1 ⟨_, H, h, ⟨_, rfl⟩, I, Same.toks⟩) (subs_of hs _ _)
theorem upL {Fs : List Addr} {R : RF} {s : Shared} {a : Addr} {xs ys : List PV} {vs ws : Array Value} {k : Nat} {f : Array Value → Array Value} (I : HI g Fs R H s.heap) (hH : H a = some (.list xs)) (h1 : IsL s.heap a vs k) (hf : f vs = ws) (d : DenL s.heap ys ws.toList) :
    HI g Fs R (H.set a (.list ys)) (s.heap.update a (Obj.mapSeq f)) := by
  refine I.upd hH (Heap.SameBut.update ..) (h1.update f) ⟨_, _, rfl, ?_⟩
  rw [hf]; exact d
theorem set_list {a : Addr} {xs : List PV} {k : Int} {p : PV} {Q : HF → Prop} (hH : H a = some (.list xs)) (h0 : 0 ≤ k) (h1 : k < xs.length) (hn : xs.length ≤ 100000) (h : Q (H.set a (.list (xs.set k.toNat p)))) : SetO g n (.ref a) (.int k) p H Q := fun vo vi vv => Op.mk fun A Fs R s E r I d => by
  refine opq fun Gq hGq => ?_
  obtain ⟨rfl, ⟨t, rfl⟩, d⟩ := d
  obtain ⟨vs, j, e1, e2⟩ := mineL I hH
  refine hGq ?_
  have e := denSize e2
  refine PySem.W.ki_setAt e1 h0 (by with_reducible exact si8 (by assumption) (by assumption)) (by rw [e]; exact h1) ⟨(), _, h, rfl, upL I hH e1 rfl ?_, Same.heap⟩
  rw [Array.toList_setIfInBounds]
  exact e2.set _ d
theorem calls_append {a : Addr} {xs : List PV} {p : PV} (hH : H a = some (.list xs)) (hn : xs.length < 100000) (h : Q .none (H.set a (.list (xs ++ [p])))) : Calls g n (.builtin "list.append") [.ref a, p] [] H Q := fun fv vvs kvs => Op.mk fun A Fs R s E r I d => by
  refine opq fun Gq hGq => ?_
  obtain ⟨rfl, ⟨_, _, rfl, rfl, ⟨v, _, rfl, d, rfl⟩⟩, rfl⟩ := d
  obtain ⟨vs, j, e1, e2⟩ := mineL I hH
  refine hGq ?_
  have e := denSize e2
  refine append_raw e1 rfl rfl (by rw [e]; exact sizeL _ (by with_reducible exact Nat.le_of_lt (by assumption))) ⟨.none, _, h, rfl, upL I hH e1 rfl ?_, Same.heap⟩
  simpa using e2.append (DenL.one d)
theorem calls_pop {a : Addr} {xs : List PV} {p : PV} (hH : H a = some (.list (xs ++ [p]))) (hn : xs.length < 100000) (h : Q p (H.set a (.list xs))) : Calls g n (.builtin "list.pop") [.ref a] [] H Q := fun fv vvs kvs => Op.mk fun A Fs R s E r I d => by
  refine opq fun Gq hGq => ?_
  obtain ⟨rfl, ⟨_, _, rfl, rfl, rfl⟩, rfl⟩ := d
  obtain ⟨vs, j, e1, e2⟩ := mineL I hH
  have e := denSize e2
  rw [List.length_append, List.length_singleton] at e
  obtain ⟨v, e3, e4⟩ := e2.get (i := xs.length) (p := p) (by simp)
  refine hGq ?_
  have hs : vs.size ≤ sizeLine := by rw [e]; exact sizeL _ (by with_reducible exact Nat.succ_le_of_lt (by assumption))
  refine call_meets F.slot_list_pop ⟨_, e1, rfl⟩ F.entry_list_pop (F.args_list_pop_1 _) (MeetsSeq.list_pop_last a vs j v (by rw [e]; simpa using e3) hs) ⟨e1, ?_⟩
  have q : (vs.eraseIdxIfInBounds (vs.size - 1)).toList = vs.toList.take xs.length := by
    unfold Array.eraseIdxIfInBounds
    rw [dif_pos (by with_reducible exact ns17 (by assumption)), Array.toList_eraseIdx, List.eraseIdx_eq_take_drop_succ, e, List.drop_of_length_le (by simp; with_reducible exact Nat.le_of_eq (by assumption))]
    simp
  refine ⟨p, _, h, e4.keeps (I.tupKeep hH (Heap.SameBut.update ..)), upL I hH e1 rfl ?_, Same.heap⟩
  rw [q]
  have := e2.take xs.length
  rwa [List.take_left] at this
theorem calls_insert0 {a : Addr} {xs : List PV} {p : PV} (hH : H a = some (.list xs)) (hn : xs.length < 100000) (h : Q .none (H.set a (.list (p :: xs)))) : Calls g n (.builtin "list.insert") [.ref a, .int 0, p] [] H Q := fun fv vvs kvs => Op.mk fun A Fs R s E r I d => by
  refine opq fun Gq hGq => ?_
  obtain ⟨rfl, ⟨_, _, rfl, rfl, ⟨_, _, rfl, ⟨t, rfl⟩, ⟨v, _, rfl, d, rfl⟩⟩⟩, rfl⟩ := d
  obtain ⟨vs, j, e1, e2⟩ := mineL I hH
  refine hGq ?_
  have e := denSize e2
  have hs : vs.size ≤ sizeLine := by rw [e]; exact sizeL _ (by with_reducible exact Nat.le_of_lt (by assumption))
  refine call_meets F.slot_list_insert ⟨_, e1, rfl⟩ F.entry_list_insert (F.args_list_insert_3 _ _ _) (AutoListH.list_insert_list_int_val_1 a vs j 0 t v (by decide) hs) ⟨e1, ?_⟩
  refine ⟨.none, _, h, rfl, upL (ws := (#[v] ++ vs)) I hH e1 ?_ ?_, Same.mk⟩
  · simp
  · exact ⟨v, vs.toList, by simp, d, e2⟩
theorem bin_addL {a b : Addr} {xs ys : List PV} (hH : H a = some (.list xs)) (hH' : H b = some (.list ys)) (hn : xs.length + ys.length ≤ 100000) (h : ∀ c, H c = none → Q (.ref c) (H.set c (.list (xs ++ ys)))) : BinO g n .Add (.ref a) (.ref b) H Q := fun va vb => Op.mk fun A Fs R s E r I d => by
  refine opq fun Gq hGq => ?_
  obtain ⟨rfl, rfl⟩ := d
  obtain ⟨vs, j, e1, e2⟩ := mineL I hH
  obtain ⟨ws, k, f1, f2⟩ := mineL I hH'
  refine hGq ?_
  have e := denSize e2
  have f := denSize f2
  refine P.add_list e1 f1 ?_ (by rw [e, f]; exact sizeL _ hn)
  refine ⟨.ref s.heap.objs.size, _, h _ I.sizeH, rfl, I.alloc (x := .list (xs ++ ys)) ⟨_, _, rfl, ?_⟩ rfl, Same.heap⟩
  simpa using e2.append f2
theorem flat_rep (k : Nat) (v : Array Value) : (List.foldl (fun x1 x2 => x1 ++ x2) #[] (List.replicate k v) : Array Value).toList = (List.replicate k v.toList).flatten := by
  have key : ∀ (l : List (Array Value)) (acc : Array Value), (List.foldl (fun x1 x2 => x1 ++ x2) acc l).toList = acc.toList ++ (l.map (·.toList)).flatten := by
    intro l
    induction l with
    | nil => intro acc; simp
    | cons x r ih => intro acc; rw [List.foldl_cons, ih]; simp
  rw [key]; simp
theorem DenL.rep {h : Heap} {xs : List PV} {vs : List Value} (d : DenL h xs vs) : ∀ k : Nat, DenL h (List.replicate k xs).flatten (List.replicate k vs).flatten
  | 0 => rfl
  | k + 1 => by rw [List.replicate_succ, List.replicate_succ, List.flatten_cons, List.flatten_cons]; exact d.append (DenL.rep d k)
theorem bin_mulL {a : Addr} {xs : List PV} {x : Int} (hH : H a = some (.list xs)) (h0 : 0 ≤ x) (h1 : x < 1000) (hn : xs.length ≤ 10) (hne : xs ≠ []) (h : ∀ c, H c = none → Q (.ref c) (H.set c (.list (List.replicate x.toNat xs).flatten))) : BinO g n .Mult (.ref a) (.int x) H Q := fun va vb => Op.mk fun A Fs R s E r I d => by
  refine opq fun Gq hGq => ?_
  obtain ⟨rfl, ⟨u, rfl⟩⟩ := d
  obtain ⟨vs, j, e1, e2⟩ := mineL I hH
  refine hGq ?_
  have e := denSize e2
  have hem : vs.isEmpty = false := by
    cases xs with
    | nil => exact absurd rfl hne
    | cons y r => simp [Array.isEmpty, e]
  refine wpAny_binaryOp_repeat_ref (T := "list") (U := "int") (by decide) ⟨_, e1, rfl⟩ (fun s' => typeIs_int s' x u) noFill_list_mul F.fills_int_mul F.slot_int_rmul repeat_list F.slot_int_index.lookup ?_
  refine call_meets F.slot_int_rmul (typeIs_int s x u) F.entry_int_rmul (F.args_int_rmul_2 _ _) (int___rmul___int_list x u a vs j) ⟨e1, rfl, ⟨_, e1, rfl⟩, ?_⟩
  have hb : vs.size * x.toNat ≤ 10 * 1000 := Nat.mul_le_mul (by with_reducible exact Nat.le_trans (Nat.le_of_eq (by assumption)) (by assumption)) (by with_reducible exact bm1 (by assumption) (by assumption))
  refine call_meets F.slot_list_mul ⟨_, e1, rfl⟩ F.entry_list_mul (F.args_list_mul_2 _ _) (AutoListH.list___mul___list_int_3 a vs j x u (by simp [Builtin.List.listFitsIndex]; with_reducible exact bm2 (by assumption) (by assumption)) (by (intro _; with_reducible exact bm3 (by assumption) (by assumption))) (by simp [Builtin.List.listTooLong, sizeLine]; with_reducible exact Nat.le_trans (by assumption) (by decide))) ⟨e1, ?_⟩
  refine ⟨.ref s.heap.objs.size, _, h _ I.sizeH, rfl, I.alloc (x := .list (List.replicate x.toNat xs).flatten) ⟨_, _, rfl, ?_⟩ rfl, Same.heap⟩
  rw [hem]
  simp only [Bool.false_eq_true, if_false]
  rw [flat_rep]
  exact e2.rep _
noncomputable def optI : Option Nat → PV
  | none => .none
  | some k => .int k
noncomputable def optZ : Option Nat → Option Int
  | none => none
  | some k => some (k : Int)
theorem den_part {h : Heap} {o : Option Nat} {v : Value} (d : Den h (optI o) v) : IsPart v (optZ o) := by
  cases o with
  | none => cases d; exact .none
  | some k => obtain ⟨t, rfl⟩ := d; exact .int _ _
theorem subs_slice {l u : Option Expr} {p : Pos} (o i : Value) : subscripted (.Slice l u none p) false o i = operate [i, o] (getItem o i) := rfl
theorem slice_gen {v : Expr} {l u : Option Expr} {p2 : Pos} {a : Addr} {vs : Array Value} {xs : List PV} {lo hi : Option Nat} {A : Around} {Fs : List Addr} {R : RF} {s : Shared} {E : Value → Shared → Prop} {va vb vc : Value} {i : Addr} (I : HI g Fs R H s.heap) (hl : s.heap.IsList a vs) (e2 : DenL s.heap xs vs.toList) (hn : xs.length ≤ 100000)
    (d1 : Den s.heap (optI lo) va) (d2 : Den s.heap (optI hi) vb) (d3 : Den s.heap .none vc) (hi' : s.heap.get? i = some { cls := .type "slice", data := .fields #[va, vb, vc] })
    (h : ∀ c, H c = none → Q (.ref c) (H.set c (.list ((xs.drop (lo.getD 0)).take (min (hi.getD xs.length) xs.length - lo.getD 0))))) :
    wpAny (model g.prog g.w) A (subscriptTail v (.Slice l u none p2) (.ref a) (.ref i)) (OpR g Fs R s Den Q) E s := by
  cases d3
  have e := denSize e2
  refine tail_any hl.typeIs slot_list_getitem.lookup (wpAny_getItem_list_slice hl ⟨_, hi', rfl, rfl⟩ (den_part d1) (den_part d2) .none (by simp) ?_ (by rw [e]; exact sizeL _ hn)) (subs_slice _ _)
  refine ⟨.ref s.heap.objs.size, _, h _ I.sizeH, rfl, I.alloc (x := .list _) ⟨_, _, rfl, ?_⟩ rfl, Same.heap⟩
  rw [slicePick_plain, e]
  have c1 : (Option.elim (optZ lo) 0 (clipAt xs.length)) = min (lo.getD 0) xs.length := by
    cases lo with
    | none => simp [optZ]
    | some k => simp only [optZ, Option.elim, clipAt_nat, Option.getD_some]
  have c2 : (Option.elim (optZ hi) xs.length (clipAt xs.length)) = min (hi.getD xs.length) xs.length := by
    cases hi with
    | none => simp [optZ]
    | some k => simp only [optZ, Option.elim, clipAt_nat, Option.getD_some]
  rw [c1, c2]
  rcases Nat.le_total (lo.getD 0) xs.length with q | q
  · rw [Nat.min_eq_left q]; exact (e2.drop _).take _
  · have z1 : vs.toList.drop (min (lo.getD 0) xs.length) = [] := List.drop_of_length_le (by simp; with_reducible exact sg1 (by assumption) (by assumption))
    have z2 : xs.drop (lo.getD 0) = [] := List.drop_of_length_le q
    rw [z1, z2]; simp; exact rfl
theorem sli_list {v : Expr} {l u : Option Expr} {p2 : Pos} {a : Addr} {xs : List PV} {lo hi : Option Nat} (hH : H a = some (.list xs)) (hn : xs.length ≤ 100000)
    (h : ∀ c, H c = none → Q (.ref c) (H.set c (.list ((xs.drop (lo.getD 0)).take (min (hi.getD xs.length) xs.length - lo.getD 0))))) : SliO g n v (.Slice l u none p2) (.ref a) (optI lo) (optI hi) .none H Q := fun vo vl vu vs i => Op.mk fun A Fs R s E r I d => by
  refine opq fun Gq hGq => ?_
  obtain ⟨rfl, d1, d2, d3, hi'⟩ := d
  obtain ⟨vs, j, e1, e2⟩ := mineL I hH
  refine hGq ?_
  exact slice_gen I e1.isList e2 hn d1 d2 d3 hi' h
theorem calls_range1 {x : Int} (h : ∀ c, H c = none → Q (.ref c) (H.set c (.range 0 x))) : Calls g n (.type "range") [.int x] [] H Q := fun fv vvs kvs => Op.mk fun A Fs R s E r I d => by
  refine opq fun Gq hGq => ?_
  obtain ⟨rfl, ⟨_, _, rfl, ⟨t, rfl⟩, rfl⟩, rfl⟩ := d
  refine hGq ?_
  exact call_range_1 ⟨.ref s.heap.objs.size, _, h _ I.sizeH, rfl, I.alloc (x := .range 0 x) ⟨_, _, _, rfl⟩ rfl, Same.mk⟩
theorem calls_min2 {x y : Int} (h : Q (.int (min x y)) H) : Calls g n (.builtin "min") [.int x, .int y] [] H Q := fun fv vvs kvs => Op.mk fun A Fs R s E r I d => by
  refine opq fun Gq hGq => ?_
  obtain ⟨rfl, ⟨_, _, rfl, ⟨t, rfl⟩, ⟨_, _, rfl, ⟨u, rfl⟩, rfl⟩⟩, rfl⟩ := d
  refine hGq ?_
  refine min_two_ints r.1 fun h' tk k => ⟨.int (min x y), H, h, ?_, I.ext k, Same.mk⟩
  by_cases q : y < x
  · rw [if_pos q]; exact ⟨u, by congr 1; with_reducible exact ii6 (by assumption)⟩
  · rw [if_neg q]; exact ⟨t, by congr 1; with_reducible exact ii5 (by assumption)⟩
end
end Mine
end
section
open PySem PySem.Calls PyProof.Rows
namespace Mine
open PySem.W (Dat kqdP kqdPs kqdOk kqd_lay kqd_eqv)
mutual
inductive RD (H : HF) : PV → Dat → Prop
  | none : RD H .none .none
  | int (i : Int) : RD H (.int i) (.int i)
  | tup {xs ds} : RDs H xs ds → RD H (.tup xs) (.tuple ds)
  | list {a xs ds} : H a = some (.list xs) → RDs H xs ds → RD H (.ref a) (.list ds)
inductive RDs (H : HF) : List PV → List Dat → Prop
  | nil : RDs H [] []
  | cons {x d xs ds} : RD H x d → RDs H xs ds → RDs H (x :: xs) (d :: ds)
end
section
variable {g : G} {Fs : List Addr} {R : RF} {H : HF} {h : Heap}
theorem RD.reads (I : HI g Fs R H h) {p : PV} {d : Dat} {v : Value} (n : Nat) (r : RD H p d) (e : Den h p v) (hk : kqdOk n d = true) : ∃ as, Reads h v (kqdP d) as := by
  refine RD.rec (H := H) (motive_1 := fun p d _ => ∀ (v : Value) (n : Nat), Den h p v → kqdOk n d = true → ∃ as, Reads h v (kqdP d) as)
    (motive_2 := fun ps ds _ => ∀ (vs : List Value) (n : Nat), DenL h ps vs → (∀ d ∈ ds, kqdOk n d = true) → ∃ as, ReadsAll h vs (kqdPs ds) as) ?_ ?_ ?_ ?_ ?_ ?_ r v n e hk
  · intro v n e _; cases e; exact ⟨_, Reads.none⟩
  · intro i v n e _; obtain ⟨t, e⟩ := e; cases e; exact ⟨_, Reads.int i t⟩
  · intro xs ds _ ih v n e hk
    refine opq fun Gq hGq => ?_
    obtain ⟨a, vs, e, e1, e2⟩ := e
    refine hGq ?_
    cases n with
    | zero => simp [kqdOk] at hk
    | succ n =>
      obtain ⟨as, q⟩ := ih vs.toList n e2 (by simpa [kqdOk] using hk)
      rw [kqdP, e]
      exact ⟨as, reads_tuple_at e1 rfl rfl q⟩
  · intro a xs ds hm _ ih v n e hk
    refine opq fun Gq hGq => ?_
    cases e
    obtain ⟨vs, k, e1, e2⟩ := mineL I hm
    refine hGq ?_
    cases n with
    | zero => simp [kqdOk] at hk
    | succ n =>
      obtain ⟨as, q⟩ := ih vs.toList n e2 (by simpa [kqdOk] using hk)
      rw [kqdP]
      exact ⟨_, reads_list_at e1 rfl rfl q⟩
  · intro vs n e _; rw [show vs = [] from e]; exact ⟨_, ReadsAll.nil⟩
  · intro x d xs ds _ _ ih1 ih2 vs n e hk
    refine opq fun Gq hGq => ?_
    obtain ⟨v, vs', e, e1, e2⟩ := e
    obtain ⟨as, q⟩ := ih1 v n e1 (hk _ (.head _))
    obtain ⟨bs, p⟩ := ih2 vs' n e2 fun d hm => hk d (.tail _ hm)
    refine hGq ?_
    rw [kqdPs, e]
    exact ⟨_, ReadsAll.cons q p⟩
end
section
variable {g : G} {n : Nat} {H : HF} {Q : PV → HF → Prop}
theorem room64 {Fs : List Addr} {A : Around} (r : Room n Fs A) : A.units + 64 < cLine := by
  have := r.2.2.1; show A.units + 64 < 9900; with_reducible exact un6 (by assumption)
theorem data_eqv {d e : Dat} (hd : kqdOk 9 d = true) (he : kqdOk 9 e = true) {b : Bool} (hb : b = true ↔ d = e) : PyData.eqv (kqdP d) (kqdP e) = b := by
  have q := kqd_eqv 9 d e 9 hd he
  cases b with
  | true => exact q.mpr (hb.mp rfl)
  | false => exact Bool.eq_false_iff.mpr fun x => Bool.noConfusion (hb.mpr (q.mp x))
theorem data_shaped {d : Dat} (h : kqdOk 9 d = true) : SeqAt.shaped (kqdP d) = true := by
  have l := kqd_lay 9 d h
  unfold SeqAt.shaped; rw [l.1, Bool.true_and]; exact decide_eq_true (Nat.le_trans l.2 (by decide))
theorem cmp_eq_data {p q : PV} {d e : Dat} (b : Bool) (h1 : RD H p d) (h2 : RD H q e) (hd : kqdOk 9 d = true) (he : kqdOk 9 e = true) (hb : b = true ↔ d = e) (h : Q (.bool b) H) : CmpO g n .Eq p q H Q := fun va vb => Op.mk fun A Fs R s E r I dd => by
  obtain ⟨as, r1⟩ := RD.reads I 9 h1 dd.1 hd
  obtain ⟨bs, r2⟩ := RD.reads I 9 h2 dd.2 he
  exact eq_dataH r1 r2 (data_shaped hd) (data_shaped he) (room64 r) (by rw [data_eqv hd he hb]; exact ⟨_, H, h, rfl, I, Same.rfl'⟩)
theorem cmp_ne_data {p q : PV} {d e : Dat} (b : Bool) (h1 : RD H p d) (h2 : RD H q e) (hd : kqdOk 9 d = true) (he : kqdOk 9 e = true) (hb : b = true ↔ d = e) (h : Q (.bool (!b)) H) : CmpO g n .NotEq p q H Q := fun va vb => Op.mk fun A Fs R s E r I dd => by
  obtain ⟨as, r1⟩ := RD.reads I 9 h1 dd.1 hd
  obtain ⟨bs, r2⟩ := RD.reads I 9 h2 dd.2 he
  exact ne_dataH r1 r2 (data_shaped hd) (data_shaped he) (room64 r) (by rw [data_eqv hd he hb]; exact ⟨_, H, h, rfl, I, Same.rfl'⟩)
noncomputable def eqI (x : Int) : Value → Bool
  | .int i _ => i == x
  | _ => false
theorem any_ints {h : Heap} {x : Int} : ∀ {ns : List Int} {vs : List Value}, DenL h (ns.map .int) vs → vs.any (eqI x) = ns.contains x
  | [], vs, e => by rw [show vs = [] from e]; rfl
  | i :: ns, vs, ⟨v, vs', e1, ⟨t, e2⟩, e3⟩ => by
    rw [e1, e2, List.any_cons, any_ints e3, List.contains_cons]
    congr 1
    show (i == x) = (x == i)
    by_cases q : i = x
    · subst q; rfl
    · rw [beq_eq_false_iff_ne.mpr q, beq_eq_false_iff_ne.mpr (Ne.symm q)]
theorem eqI_at {h : Heap} {x : Int} {t : Tok} {ns : List Int} {vs : Array Value} {A : Around} {s : Shared} (d : DenL h (ns.map .int) vs.toList) : ∀ y, y ∈ vs → SeqAt.EqAt A s y (.int x t) (eqI x y) := by
  intro y hy
  refine opq fun Gq hGq => ?_
  obtain ⟨i, hi, e⟩ := Array.mem_iff_getElem.mp hy
  obtain ⟨p, e1, e2⟩ := d.get' (i := i) (v := y) (by simp [hi, e])
  refine hGq ?_
  rw [List.getElem?_map] at e1
  cases z : ns[i]? with
  | none => rw [z] at e1; (first | exact nsF e1 | exact snF e1 | cases e1)
  | some k =>
    rw [z] at e1; (first | exact nsF e1 | exact snF e1 | cases e1)
    obtain ⟨u, rfl⟩ := e2
    intro prog w E Q h
    exact wpAny_eqBool_int h
theorem cmp_notin {a : Addr} {x : Int} {ns : List Int} (hH : H a = some (.list (ns.map .int))) (h : Q (.bool (!ns.contains x)) H) : CmpO g n .NotIn (.int x) (.ref a) H Q := fun va vb => Op.mk fun A Fs R s E r I d => by
  refine opq fun Gq hGq => ?_
  obtain ⟨⟨t, rfl⟩, rfl⟩ := d
  obtain ⟨vs, j, e1, e2⟩ := mineL I hH
  refine hGq ?_
  refine SeqAt.notIn_listAt (eqI x) e1.isList (eqI_at e2) ?_
  rw [show vs.any (eqI x) = ns.contains x by rw [← any_ints e2]; simp]
  exact ⟨_, H, h, rfl, I, Same.rfl'⟩
/-- the order of tuples of ints of one length -/
noncomputable def lexLt : List Int → List Int → Bool
  | x :: xs, y :: ys => if x = y then lexLt xs ys else decide (x < y)
  | _, _ => false
set_option maxHeartbeats 1000000 in
theorem tup_lt_raw (l b : Addr) (xs ys : List Int) (vs ws : Array Value) (k k2 : Nat) (hl : xs.length = ys.length) :
    Meets (Builtin.«tuple.__lt__» ⟨[.ref l, .ref b], []⟩)
      (fun A R s => s.heap.get? l = some { cls := .type "tuple", data := .seq vs k } ∧ s.heap.get? b = some { cls := .type "tuple", data := .seq ws k2 } ∧ DenL s.heap (xs.map .int) vs.toList ∧ DenL s.heap (ys.map .int) ws.toList ∧
        R (.ok (.ret (.bool (lexLt xs ys)))) s) :=
  .of_wp fun prog w A R s h => by
    refine opq fun Gq hGq => ?_
    obtain ⟨hp, g, d, tk, os⟩ := s; obtain ⟨hl1, hb, d1, d2, h⟩ := h
    refine hGq ?_
    have f2 := AutoSeq1.sub_tuple_tuple
    have s1 : vs.size = xs.length := by have := d1.length; simpa using this
    have s2 : ws.size = ys.length := by have := d2.length; simpa using this
    wp_walk using wpAny_loadPart' hl1, wpAny_loadPart' hb, wpAny_forIn_list _ (fun rest b s' => b.1 = none ∧ s' = ⟨hp, g, d, tk, os⟩ ∧ ∃ xs' ys' vs' ws', rest = List.zip vs' ws' ∧ DenL hp (xs'.map PV.int) vs' ∧ DenL hp (ys'.map PV.int) ws' ∧ xs'.length = ys'.length ∧
      R (.ok (.ret (.bool (lexLt xs' ys')))) ⟨hp, g, d, tk, os⟩) _
    case turn =>
      rintro ⟨y, x⟩ rest b s' ⟨hb', rfl, xs', ys', vs', ws', hz, e1, e2, hlen, hR⟩
      cases xs' with
      | nil =>
        rw [show vs' = [] from e1] at hz
        cases hz
      | cons i xs' =>
        cases ys' with
        | nil => cases hlen
        | cons j ys' =>
          refine opq fun Gq hGq => ?_
          obtain ⟨v, vs'', rfl, ⟨t, rfl⟩, e1⟩ := e1
          obtain ⟨u, ws'', rfl, ⟨t', rfl⟩, e2⟩ := e2
          cases hz
          refine hGq ?_
          unfold lexLt at hR
          refine wpAny_bind (wpAny_eqBool_int ?_)
          by_cases q : i = j
          · rw [if_pos q] at hR
            subst q
            rw [beq_self_eq_true]
            wp_walk
            exact ⟨rfl, rfl, xs', ys', vs'', ws'', rfl, e1, e2, by simpa using hlen, hR⟩
          · rw [if_neg q] at hR
            rw [beq_eq_false_iff_ne.mpr q]
            simp only [Bool.not_false, if_true]
            refine wpAny_bind (wpAny_rule (wpAny_bind (show wpAny _ _ (compareOp .Lt (.int i t) (.int j t')) _ _ _ from PyProof.Rows.lt_int (wpAny_bind (wpAny_pure (wpAny_pure ?_))))))
            exact wpAny_pure ⟨_, rfl, hR⟩
    case fin =>
      rintro ⟨b1, b2⟩ s' ⟨hb', rfl, xs', ys', vs', ws', hz, e1, e2, hlen, hR⟩
      simp only at hb'
      subst hb'
      have hn : xs' = [] := by
        cases xs' with
        | nil => rfl
        | cons i xs' =>
          cases ys' with
          | nil => cases hlen
          | cons j ys' =>
            obtain ⟨v, vs'', rfl, _, _⟩ := e1
            obtain ⟨u, ws'', rfl, _, _⟩ := e2
            cases hz
      subst hn
      wp_walk
      refine ⟨_, rfl, ?_⟩
      have : lexLt [] ys' = false := by unfold lexLt; rfl
      rw [this] at hR
      simpa [Builtin.Tuple.tupleCompareSizes, s1, s2, hl] using hR
    case h =>
      exact ⟨rfl, rfl, xs, ys, _, _, rfl, d1, d2, hl, h⟩
theorem cmp_lt_tup {xs ys : List Int} (hl : xs.length = ys.length) (h : Q (.bool (lexLt xs ys)) H) : CmpO g n .Lt (.tup (xs.map .int)) (.tup (ys.map .int)) H Q := fun va vb => Op.mk fun A Fs R s E r I d => by
  refine opq fun Gq hGq => ?_
  obtain ⟨⟨a, vs, rfl, e1, e2⟩, ⟨b, ws, rfl, f1, f2⟩⟩ := d
  refine hGq ?_
  refine PySem.W.cmp_ofLt (richCompare_meets_room (op := .Lt) ⟨_, e1, rfl⟩ ⟨_, f1, rfl⟩ F.slot_tuple_lt F.entry_tuple_lt (F.args_tuple_lt_2 _ _) (tup_lt_raw a b xs ys vs ws 0 0 hl) ⟨e1, f1, e2, f2, ?_⟩ (by have := room64 r; with_reducible exact cl1 (by assumption)))
  exact (show Value.bool (lexLt xs ys) ≠ .notImplemented ∧ OpR g Fs R s Den Q (Value.bool (lexLt xs ys)) s from ⟨fun x => (by cases x), _, H, h, rfl, I, Same.rfl'⟩)
end
end Mine
end
section
open PySem PySem.Calls PyProof.Rows
namespace Mine
section
variable {g : G} {n : Nat} {H : HF} {Q : PV → HF → Prop}
noncomputable def byteL (ns : List Int) : List UInt8 := ns.map fun n => n.toNat.toUInt8
theorem ints_are {h : Heap} : ∀ {ns : List Int} {vs : List Value}, DenL h (ns.map .int) vs → IntsAre vs ns
  | [], vs, e => by rw [show vs = [] from e]; exact .nil
  | i :: ns, vs, ⟨v, vs', e1, ⟨t, e2⟩, e3⟩ => by rw [e1, e2]; exact .cons i t (ints_are e3)
theorem calls_bytes {a : Addr} {ns : List Int} (hH : H a = some (.list (ns.map .int))) (hr : ∀ n ∈ ns, 0 ≤ n ∧ n < 256) (hz : ns.length ≤ 100000) (h : Q (.bytes (byteL ns)) H) : Calls g n (.type "bytes") [.ref a] [] H Q := fun fv vvs kvs => Op.mk fun A Fs R s E r I d => by
  refine opq fun Gq hGq => ?_
  obtain ⟨rfl, ⟨_, _, rfl, rfl, rfl⟩, rfl⟩ := d
  obtain ⟨vs, j, e1, e2⟩ := mineL I hH
  refine hGq ?_
  have e := denSize e2
  rw [List.length_map] at e
  refine call_bytes_ints (vs := vs.toList) (by simpa using e1.isList) (ints_are e2) hr (by simp only [Array.length_toList]; rw [e]; exact sizeL _ hz) r.1 fun h' t k kk => ⟨_, H, h, ⟨t, rfl⟩, I.ext kk, Same.mk⟩
theorem isi_bytes_no {b : Array UInt8} {t : Tok} {T : String} (hne : (Value.type "bytes" == Value.type T) = false) (hty : typeOf (.type T) = pure (.type "type")) (hsub : isSubtype (.type "bytes") (.type T) = pure false) :
    Answers (fun s => s.TypeIs (.bytes b t) "bytes") (.bytes b t) (.type T) false :=
  fun _ _ _ _ _ _ s hs => by
    refine opq fun Gq hGq => ?_
    obtain ⟨h, g, d, t, os⟩ := s
    refine hGq ?_
    exact isinstance_nested_false_bytes hne hty hsub (hs.2 _)
theorem sub_bytes_str : isSubtype (.type "bytes") (.type "str") = pure false := by rw [isSubtype_type]; kernel_rfl
theorem sub_bytes_bytes : isSubtype (.type "bytes") (.type "bytes") = pure true := by rw [isSubtype_type]; kernel_rfl
theorem sub_bytes_bytearray : isSubtype (.type "bytes") (.type "bytearray") = pure false := by rw [isSubtype_type]; kernel_rfl
theorem calls_isi_str {b : List UInt8} (h : Q (.bool false) H) : Calls g n (.builtin "isinstance") [.bytes b, .type "str"] [] H Q := fun fv vvs kvs => Op.mk fun A Fs R s E r I d => by
  refine opq fun Gq hGq => ?_
  obtain ⟨rfl, ⟨_, _, rfl, ⟨t, rfl⟩, ⟨_, _, rfl, rfl, rfl⟩⟩, rfl⟩ := d
  refine hGq ?_
  have g1 : Meets (Builtin.«isinstance» ⟨[.bytes b.toArray t, .type "str"], []⟩) (fun _ R s => R (.ok (.ret (.bool false))) { s with toks := s.toks + 1 }) := fun _ _ _ _ s hs => by
    obtain ⟨h, g, d, t, os⟩ := s
    exact isinstance_outer (isinstance_nested_false_bytes (by decide) F.isi_meta_str sub_bytes_str hs)
  exact call_isinstance g1 ⟨_, H, h, rfl, I, Same.toks⟩
theorem calls_isi_bytes {b : List UInt8} (h : Q (.bool true) H) : Calls g n (.builtin "isinstance") [.bytes b, .tup [.type "bytes", .type "bytearray"]] [] H Q := fun fv vvs kvs => Op.mk fun A Fs R s E r I d => by
  refine opq fun Gq hGq => ?_
  obtain ⟨rfl, ⟨_, _, rfl, ⟨t, rfl⟩, ⟨_, _, rfl, ⟨a, vs, rfl, e1, e2⟩, rfl⟩⟩, rfl⟩ := d
  have hvs : vs = #[.type "bytes", .type "bytearray"] := by
    obtain ⟨_, _, q1, rfl, ⟨_, _, q2, rfl, q3⟩⟩ := e2
    rw [q2, q3] at q1
    apply Array.toList_inj.mp; rw [q1]
  subst hvs
  refine hGq ?_
  have hT : s.TypeIs (.bytes b.toArray t) "bytes" := rfl
  refine call_isinstance (isinstance_tuple (Tx := "bytes") (cs := [.type "bytes", .type "bytearray"]) (vs := [true, false]) ⟨Answers.of_true F.isi_meta_bytes sub_bytes_bytes, isi_bytes_no (by decide) F.isi_meta_bytearray sub_bytes_bytearray, trivial⟩) ⟨hT, e1, fun tk => ?_⟩
  exact ⟨.bool true, H, h, rfl, I, Same.toks⟩
theorem calls_type_bytes {b : List UInt8} (h : Q (.type "bytes") H) : Calls g n (.type "type") [.bytes b] [] H Q := fun fv vvs kvs => Op.mk fun A Fs R s E r I d => by
  refine opq fun Gq hGq => ?_
  obtain ⟨rfl, ⟨_, _, rfl, ⟨t, rfl⟩, rfl⟩, rfl⟩ := d
  obtain ⟨hh, gg, dd, tt, oo⟩ := s
  refine hGq ?_
  refine wpAny_call (codeAny_of_tree ?_)
  show wpAny _ _ (callAny (.type "type") ⟨[.bytes b.toArray t], []⟩) _ _ _
  simp only [callAny]
  refine wpAny_pure ⟨Code.quiet_builtin _ (by decide +kernel), codeAny_builtin entry_type_call ?_⟩
  unfold Builtin.«type.__call__»
  dsimp only
  unfold shownTypeOf
  repeat wp_step
  exact ⟨.type "bytes", H, h, rfl, I, Same.rfl'⟩
theorem calls_type_bool {b : Bool} (h : Q (.type "bool") H) : Calls g n (.type "type") [.bool b] [] H Q := fun fv vvs kvs => Op.mk fun A Fs R s E r I d => by
  refine opq fun Gq hGq => ?_
  obtain ⟨rfl, ⟨_, _, rfl, rfl, rfl⟩, rfl⟩ := d
  obtain ⟨hh, gg, dd, tt, oo⟩ := s
  refine hGq ?_
  refine wpAny_call (codeAny_of_tree ?_)
  show wpAny _ _ (callAny (.type "type") ⟨[.bool b], []⟩) _ _ _
  simp only [callAny]
  refine wpAny_pure ⟨Code.quiet_builtin _ (by decide +kernel), codeAny_builtin entry_type_call ?_⟩
  unfold Builtin.«type.__call__»
  dsimp only
  unfold shownTypeOf
  repeat wp_step
  exact ⟨.type "bool", H, h, rfl, I, Same.rfl'⟩
theorem entry_iter' : entryFor table "iter" = some Builtin.«iter» := entryFor_of_fast (by kernel_rfl)
theorem entry_next' : entryFor table "next" = some Builtin.«next» := entryFor_of_fast (by kernel_rfl)
theorem args_iter1 (a : Value) : argsOk "iter" ⟨[a], []⟩ := by unfold argsOk; kernel_rfl
theorem args_next1 (a : Value) : argsOk "next" ⟨[a], []⟩ := by unfold argsOk; kernel_rfl
theorem calls_iter_bytes {b : List UInt8} (h : ∀ a, H a = none → Q (.ref a) (H.set a (.biter b 0))) : Calls g n (.builtin "iter") [.bytes b] [] H Q := fun fv vvs kvs => Op.mk fun A Fs R s E r I d => by
  refine opq fun Gq hGq => ?_
  obtain ⟨rfl, ⟨_, _, rfl, ⟨t, rfl⟩, rfl⟩, rfl⟩ := d
  refine hGq ?_
  refine call_function_entry (by decide +kernel) (by decide +kernel) entry_iter' (args_iter1 _) ?_
  unfold Builtin.«iter»
  refine wpAny_bind (m := someArgs "iter" 1 2 _) (wpAny_of_eq (a := [Value.bytes b.toArray t]) (by first | rfl | kernel_rfl!) ?_)
  show wpAny _ _ (pyIter (.bytes b.toArray t) >>= _) _ _ _
  refine wpAny_bind (PySem.W.KBw.pyIter_bytes ?_)
  exact wpAny_pure ⟨_, rfl, .ref s.heap.objs.size, _, h _ I.sizeH, rfl, I.alloc (x := .biter b 0) ⟨t, rfl⟩ rfl, Same.heap⟩
theorem calls_next_bytes {b : List UInt8} {a : Addr} {i : Nat} {c : UInt8} (hH : H a = some (.biter b i)) (hc : b[i]? = some c) (h : Q (.int c.toNat) (H.set a (.biter b (i + 1)))) : Calls g n (.builtin "next") [.ref a] [] H Q := fun fv vvs kvs => Op.mk fun A Fs R s E r I d => by
  refine opq fun Gq hGq => ?_
  obtain ⟨rfl, ⟨_, _, rfl, rfl, rfl⟩, rfl⟩ := d
  obtain ⟨_, _, o, ho, t, rfl⟩ := I.mine a _ hH
  refine hGq ?_
  have hT : s.TypeIs (.ref a) "bytes_iterator" := ⟨_, ho, rfl⟩
  refine call_function_entry (by decide +kernel) (by decide +kernel) entry_next' (args_next1 _) ?_
  unfold Builtin.«next»
  refine wpAny_bind (m := someArgs "next" 1 2 _) (wpAny_of_eq (a := [Value.ref a]) (by first | rfl | kernel_rfl!) ?_)
  dsimp only
  refine wpAny_bind (wpAny_specialOf (name := Str.ofString "__next__") hT PySem.W.KBw.slot_next.lookup ?_)
  refine wpAny_ite_split (fun hab => absurd hab (by decide)) (fun _ => ?_)
  refine wpAny_bind (wpAny_callSpecial?_slot (name := PySem.Str.ofString "__next__") hT PySem.W.KBw.slot_next
    (wpAny_call_entry PySem.W.KBw.slot_next hT PySem.W.KBw.entry_next ?_ (PySem.W.KBw.args_next _)))
  show wpAny _ _ (field (.ref a) 0 >>= _) _ _ s
  refine wpAny_bind (wpAny_field ho rfl (x := .bytes b.toArray t) rfl ?_)
  show wpAny _ _ (if (Value.bytes b.toArray t == Value.none) = true then _ else _) _ _ s
  rw [if_neg (show ¬ ((Value.bytes b.toArray t == Value.none) = true) from Bool.false_ne_true)]
  show wpAny _ _ (field (.ref a) 1 >>= _) _ _ s
  refine wpAny_bind (wpAny_field ho rfl (x := .int i 0) rfl ?_)
  refine wpAny_bind (wpAny_of_eq (a := b.toArray) rfl ?_)
  have hc' : b.toArray[i]? = some c := by simpa using hc
  simp only [Int.toNat_natCast, hc']
  refine wpAny_bind (wpAny_setField ho rfl (by simp) (wpAny_bind (wpAny_mkInt (wpAny_pure ⟨_, rfl, ?_⟩))))
  have ho' := Heap.get?_update_self (Obj.mapFields (·.setIfInBounds 1 (rawInt ((i : Int) + 1)))) ho rfl
  refine wpAny_pure ⟨_, rfl, _, _, h, ⟨_, rfl⟩, I.upd hH (Heap.SameBut.update ..) ho' ⟨t, ?_⟩, Same.mk⟩
  show Obj.mk _ _ _ _ = _
  simp [rawInt]
theorem calls_iter_list {l : Addr} {xs : List PV} (hH : H l = some (.list xs)) (h : ∀ a, H a = none → Q (.ref a) (H.set a (.liter l 0))) : Calls g n (.builtin "iter") [.ref l] [] H Q := fun fv vvs kvs => Op.mk fun A Fs R s E r I d => by
  refine opq fun Gq hGq => ?_
  obtain ⟨rfl, ⟨_, _, rfl, rfl, rfl⟩, rfl⟩ := d
  obtain ⟨vs, j, e1, e2⟩ := mineL I hH
  refine hGq ?_
  refine call_function_entry (by decide +kernel) (by decide +kernel) entry_iter' (args_iter1 _) ?_
  unfold Builtin.«iter»
  refine wpAny_bind (m := someArgs "iter" 1 2 _) (wpAny_of_eq (a := [Value.ref l]) (by first | rfl | kernel_rfl!) ?_)
  show wpAny _ _ (pyIter (.ref l) >>= _) _ _ _
  refine wpAny_bind (wpAny_pyIter_list e1.isList ?_)
  exact wpAny_pure ⟨_, rfl, .ref s.heap.objs.size, _, h _ I.sizeH, rfl, I.alloc (x := .liter l 0) ⟨rfl, rfl⟩ rfl, Same.heap⟩
theorem ob_mro : mroOf (.type "object") = pure [.type "object"] := by rw [mroOf_type]; kernel_rfl
theorem ob_lookup_new : typeLookup (.type "object") "__new__" = pure (some (.builtin "object.__new__")) := by rw [typeLookup_type, builtinLookup_eq_fast]; kernel_rfl
theorem ob_slot_init : Slot "object" "__init__" "object.__init__" :=
  .of (owner := "object") (n := "__init__") (by rw [typeLookup_type, builtinLookup_eq_fast]; kernel_rfl) (by decide +kernel) (by decide +kernel) (by decide +kernel)
    (by first | exact .inl (by decide +kernel) | exact .inr (by decide +kernel)) (by rw [isSubtype_type]; kernel_rfl)
theorem ob_called : TypeCalled "object" "object.__new__" "object.__init__" :=
  ⟨by decide +kernel, by decide +kernel, ⟨_, _, ob_mro⟩, madeBy_type ob_mro ob_lookup_new (by decide +kernel), by decide +kernel, by rw [isSubtype_type]; kernel_rfl, ob_slot_init⟩
theorem ob_typeCall : checkTypeCall "object" ⟨[], []⟩ = pure () := by kernel_rfl
theorem ob_newCall : checkBuiltinCall "object.__new__" ⟨[.type "object"], []⟩ = pure () := by kernel_rfl
theorem ob_entry : entryFor table "object.__new__" = some Builtin.«object.__new__» := by first | exact entryFor_of_fast (by kernel_rfl) | exact entryFor_of_tree (by kernel_rfl)
theorem ob_madeHere : Bind.madeHere "object.__new__" (.type "object") = pure () := by kernel_rfl
theorem ob_args (o : Value) : argsOk "object.__init__" ⟨[o], []⟩ := by
  unfold argsOk; rw [signature?_of (id := "object.__init__") (n := ['_', '_', 't', 'i', 'n', 'i', '_', '_']) (o := ['t', 'c', 'e', 'j', 'b', 'o']) (by kernel_rfl) F.owner_object]; kernel_rfl
theorem ob_new : Meets (Builtin.«object.__new__» ⟨[.type "object"], []⟩) (fun _ R s => R (.ok (.ret (.ref s.heap.objs.size))) { s with heap := s.heap.push { cls := .type "object" } }) :=
  .of_wp fun prog w A R s h => by
    refine opq fun Gq hGq => ?_
    obtain ⟨hh, gg, dd, tt, oo⟩ := s
    refine hGq ?_
    have h1 := ob_madeHere
    unfold Builtin.«object.__new__»
    repeat (any_goals (first | assumption | wp_step))
    all_goals exact ⟨_, rfl, h⟩
theorem calls_object (h : ∀ a, H a = none → Q (.ref a) (H.set a .plain)) : Calls g n (.type "object") [] [] H Q := fun fv vvs kvs => Op.mk fun A Fs R s E r I d => by
  refine opq fun Gq hGq => ?_
  obtain ⟨rfl, rfl, rfl⟩ := d
  refine hGq ?_
  refine callType_meets (Q₁ := fun obj s₁ => s₁.TypeIs obj "object" ∧ OpR g Fs R s Den Q obj s₁) ob_called ob_typeCall ob_newCall ob_entry F.entry_object_init ob_new ?_ fun obj s₁ h₁ => ?_
  · exact ⟨⟨_, Heap.get?_push_size _ rfl, rfl⟩, .ref s.heap.objs.size, _, h _ I.sizeH, rfl, I.alloc (x := .plain) ⟨rfl, fun _ _ q => (by cases q)⟩ rfl, Same.heap⟩
  · refine ⟨h₁.1, ob_args obj, (fun _ R s => R (.ok (.ret .none)) s), ?_, rfl, h₁.2⟩
    exact Meets.of_wp fun prog w A R s hs => wpAny_pure ⟨_, rfl, hs⟩
end
end Mine
end
section
open PySem PySem.Calls PyProof.Rows
namespace Mine
theorem lk_hit {x : Str} {v : PV} {m : Vars} : List.lookup x ((x, v) :: m) = some v := by
  rw [List.lookup_cons, beq_self_eq_true]
theorem lk_skip {x y : Str} {v : PV} {m : Vars} {r : Option PV} (h : (x == y) = false) (k : List.lookup x m = r) : List.lookup x ((y, v) :: m) = r := by
  rw [List.lookup_cons, h]; exact k
theorem HF.set_none {H : HF} {a b : Addr} {x : AO} (h : H.set a x b = none) : b ≠ a ∧ H b = none := by
  unfold HF.set at h
  split at h
  · cases h
  · exact ⟨‹_›, h⟩
theorem HF.Le.new {K H : HF} {a : Addr} {x : AO} (h : H a = none) (k : K.Le H) : K.Le (H.set a x) := fun b z e => by
  have := k b z e
  rw [HF.set_other (fun q => by rw [q, h] at this; (first | exact nsF this | exact snF this | cases this))]; exact this
theorem HF.Le.newK {K H : HF} {a : Addr} {x : AO} (h : K a = none) (k : K.Le H) : K.Le (H.set a x) := fun b z e => by
  have := k b z e
  rw [HF.set_other (fun q => by rw [q, h] at e; (first | exact nsF e | exact snF e | cases e))]; exact this
theorem HF.Le.cong {K H : HF} {a : Addr} {x : AO} (k : K.Le H) : (K.set a x).Le (H.set a x) := fun b z e => by
  by_cases q : b = a
  · subst q; rw [HF.set_self] at e ⊢; exact e
  · rw [HF.set_other q] at e ⊢; exact k b z e
section
variable {c : Cx} {m : Vars} {H : HF} {rest : List Stmt} {Q : Fl → Vars → HF → Prop}
theorem Then_next (h : EvSs c rest m H Q) : Then c rest Q .next m H := h
theorem Then_ret {v : PV} (h : Q (.ret v) m H) : Then c rest Q (.ret v) m H := h
theorem Then_cont (h : Q .cont m H) : Then c rest Q .cont m H := h
theorem Then_brk (h : Q .brk m H) : Then c rest Q .brk m H := h
variable {σ : Type} {Mv : σ → Vars} {Hh : σ → HF} {S : σ → Prop}
theorem TurnEnd_next (h : ∃ st, S st ∧ Vars.Le (Mv st) m ∧ (Hh st).Le H) : TurnEnd Mv Hh S Q .next m H := h
theorem TurnEnd_cont (h : ∃ st, S st ∧ Vars.Le (Mv st) m ∧ (Hh st).Le H) : TurnEnd Mv Hh S Q .cont m H := h
theorem TurnEnd_brk (h : Q .next m H) : TurnEnd Mv Hh S Q .brk m H := h
noncomputable def asgOK (t value : Expr) : Bool := !isStar t && notComp value && match t with
  | .Name .. => true
  | .Subscript .. => true
  | .Tuple .. => match value with
    | .Tuple .. => false
    | .List .. => false
    | _ => true
  | _ => false
theorem EvS_AssignX {t value : Expr} {pos : Pos} (ho : asgOK t value = true) (hsw : ∀ env, env.scope = c.sc → swapsWithSole [t] value pos.line env = pure false) (hnt : ∀ env, env.scope = c.sc → swappedStores [t] value env = pure none)
    (h : EvE c value m H fun v H1 => EvA c t v m H1 fun m2 H2 => Q .next m2 H2) : EvS c (.Assign [t] value pos) m H Q :=
  EvS_Assign hsw (by simpa using (Bool.and_eq_true_iff.mp (Bool.and_eq_true_iff.mp ho).1).1) hnt h
theorem vle_nil : Vars.Le [] m := fun _ _ e => by cases e
theorem vle_cons {x : Str} {p : PV} {r : Vars} (h : m.lookup x = some p) (k : Vars.Le r m) : Vars.Le ((x, p) :: r) m := fun y q e => by
  rw [List.lookup_cons] at e
  cases z : y == x with
  | true => rw [z] at e; (first | exact nsF e | exact snF e | cases e); rw [eq_of_beq z]; exact h
  | false => rw [z] at e; exact k y q e
end
section
variable {g : G} {n : Nat} {H : HF} {Q : PV → HF → Prop}
theorem sub_listN {v i : Expr} {a : Addr} {xs : List PV} {k : Nat} {p : PV} (hs : notSlice i = true) (hH : H a = some (.list xs)) (h1 : k < 100000) (hp : xs[k]? = some p) (h : Q p H) : SubO g n v i (.ref a) (.int k) H Q :=
  sub_list hs hH (by with_reducible exact Int.natCast_nonneg _) (by with_reducible exact si4 (by assumption)) (by simpa using hp) h
theorem sub_tupN {v i : Expr} {xs : List PV} {k : Nat} {p : PV} (hs : notSlice i = true) (h1 : k < 100000) (hp : xs[k]? = some p) (h : Q p H) : SubO g n v i (.tup xs) (.int k) H Q :=
  sub_tup hs (by with_reducible exact Int.natCast_nonneg _) (by with_reducible exact si4 (by assumption)) (by simpa using hp) h
theorem set_listN {a : Addr} {xs : List PV} {k : Nat} {p : PV} {Q : HF → Prop} (hH : H a = some (.list xs)) (h1 : k < xs.length) (hn : xs.length ≤ 100000) (h : Q (H.set a (.list (xs.set k p)))) : SetO g n (.ref a) (.int k) p H Q :=
  set_list hH (by with_reducible exact Int.natCast_nonneg _) (by with_reducible exact Int.ofNat_lt.mpr (by assumption)) hn (by simpa using h)
end
/-! parameters -/
section
variable {g : G} {fd : FuncData} {K : PySem.W.Frag}
theorem mkBinds {vs : List PV} {kw : List (Str × PV)} {pb : Vars} (X : K.In g.h₀) (f : List Value → List Value → List (Str × Value))
    (h : ∀ (s : Shared) vvs kvs, DenL s.heap vs vvs → DenL s.heap (kw.map (·.2)) kvs → (∀ S, PySem.W.peek K S (bindArgs fd ⟨vvs, (kw.map (·.1)).zip kvs⟩) = some (f vvs kvs)) ∧ BDen s.heap pb (f vvs kvs)) : Binds g fd vs kw pb := fun s vvs kvs hk d1 d2 =>
  let ⟨h1, h2⟩ := h s vvs kvs d1 d2
  ⟨_, PySem.W.kp_binds (X.keeps hk) h1, h2⟩
theorem binds1 {x : Str} {p : PV} (X : K.In g.h₀) (h : ∀ a S, PySem.W.peek K S (bindArgs fd ⟨[a], []⟩) = some [(x, a)]) : Binds g fd [p] [] [(x, p)] := by
  refine mkBinds X (fun vvs _ => [x].zip vvs) fun s vvs kvs d1 d2 => ?_
  refine opq fun Gq hGq => ?_
  obtain ⟨_, _, rfl, q1, rfl⟩ := d1
  refine hGq ?_
  rw [show kvs = [] from d2]
  exact ⟨h _, rfl, _, _, rfl, q1, rfl⟩
theorem binds2 {x y : Str} {p q : PV} (X : K.In g.h₀) (h : ∀ a b S, PySem.W.peek K S (bindArgs fd ⟨[a, b], []⟩) = some [(x, a), (y, b)]) : Binds g fd [p, q] [] [(x, p), (y, q)] := by
  refine mkBinds X (fun vvs _ => [x, y].zip vvs) fun s vvs kvs d1 d2 => ?_
  refine opq fun Gq hGq => ?_
  obtain ⟨_, _, rfl, q1, _, _, rfl, q2, rfl⟩ := d1
  refine hGq ?_
  rw [show kvs = [] from d2]
  exact ⟨h _ _, rfl, _, _, rfl, q1, _, _, rfl, q2, rfl⟩
theorem binds3 {x y z : Str} {p q r : PV} (X : K.In g.h₀) (h : ∀ a b c S, PySem.W.peek K S (bindArgs fd ⟨[a, b, c], []⟩) = some [(x, a), (y, b), (z, c)]) : Binds g fd [p, q, r] [] [(x, p), (y, q), (z, r)] := by
  refine mkBinds X (fun vvs _ => [x, y, z].zip vvs) fun s vvs kvs d1 d2 => ?_
  refine opq fun Gq hGq => ?_
  obtain ⟨_, _, rfl, q1, _, _, rfl, q2, _, _, rfl, q3, rfl⟩ := d1
  refine hGq ?_
  rw [show kvs = [] from d2]
  exact ⟨h _ _ _, rfl, _, _, rfl, q1, _, _, rfl, q2, _, _, rfl, q3, rfl⟩
/-- one given, two by default -/
theorem binds1n {x y z : Str} {p : PV} (X : K.In g.h₀) (h : ∀ a S, PySem.W.peek K S (bindArgs fd ⟨[a], []⟩) = some [(x, a), (y, .none)]) : Binds g fd [p] [] [(x, p), (y, .none)] := by
  refine mkBinds X (fun vvs _ => [x, y].zip (vvs ++ [.none])) fun s vvs kvs d1 d2 => ?_
  refine opq fun Gq hGq => ?_
  obtain ⟨_, _, rfl, q1, rfl⟩ := d1
  refine hGq ?_
  rw [show kvs = [] from d2]
  exact ⟨h _, rfl, _, _, rfl, q1, _, _, rfl, rfl, rfl⟩
theorem binds1nb {x y z : Str} {p : PV} {b : Bool} (X : K.In g.h₀) (h : ∀ a S, PySem.W.peek K S (bindArgs fd ⟨[a], []⟩) = some [(x, a), (y, .none), (z, .bool b)]) : Binds g fd [p] [] [(x, p), (y, .none), (z, .bool b)] := by
  refine mkBinds X (fun vvs _ => [x, y, z].zip (vvs ++ [.none, .bool b])) fun s vvs kvs d1 d2 => ?_
  refine opq fun Gq hGq => ?_
  obtain ⟨_, _, rfl, q1, rfl⟩ := d1
  refine hGq ?_
  rw [show kvs = [] from d2]
  exact ⟨h _, rfl, _, _, rfl, q1, _, _, rfl, rfl, _, _, rfl, rfl, rfl⟩
/-- one given, one by its name -/
theorem binds1k {x y : Str} {p q : PV} (X : K.In g.h₀) (h : ∀ a b S, PySem.W.peek K S (bindArgs fd ⟨[a], [(y, b)]⟩) = some [(x, a), (y, b)]) : Binds g fd [p] [(y, q)] [(x, p), (y, q)] := by
  refine mkBinds X (fun vvs kvs => [x, y].zip (vvs ++ kvs)) fun s vvs kvs d1 d2 => ?_
  refine opq fun Gq hGq => ?_
  obtain ⟨_, _, rfl, q1, rfl⟩ := d1
  obtain ⟨_, _, rfl, q2, rfl⟩ := d2
  refine hGq ?_
  exact ⟨h _ _, rfl, _, _, rfl, q1, _, _, rfl, q2, rfl⟩
end
end Mine
end
section
open PySem PySem.Calls PyProof.Rows
namespace Mine
section
variable {c : Cx} {m : Vars} {H : HF} {Q : PV → HF → Prop} {o : Expr} {apos pos : Pos} {args : List Expr}
noncomputable def methOK (o : Expr) (apos pos : Pos) (args : List Expr) : Bool := args.all (fun e => !isStar e) && notCallE o && (apos.endLine == pos.line) && decide (args.length < 20)
theorem meth_of {name : String} {id : String} (hs : (Str.ofString name).toString = name) (slot : Slot "list" name id) (hty : typeOf (.builtin id) = pure (.type "method_descriptor")) (hok : methOK o apos pos args = true)
    (h : EvE c o m H fun ov H1 => ∃ a xs, ov = .ref a ∧ H1 a = some (.list xs) ∧ EvL c pos args m H1 fun vs H2 => Calls c.g c.n (.builtin id) (ov :: vs) [] H2 Q) : EvE c (.Call (.Attribute o (Str.ofString name) apos) args [] pos) m H Q := by
  unfold methOK at hok
  simp only [Bool.and_eq_true] at hok
  exact meth_list hok.1.1.1 hok.1.1.2 hok.1.2 hok.2 (by rw [hs]; exact slot) (by rw [hs]) hty h
theorem meth_append (hok : methOK o apos pos args = true)
    (h : EvE c o m H fun ov H1 => ∃ a xs, ov = .ref a ∧ H1 a = some (.list xs) ∧ EvL c pos args m H1 fun vs H2 => Calls c.g c.n (.builtin "list.append") (ov :: vs) [] H2 Q) : EvE c (.Call (.Attribute o (Str.ofString "append") apos) args [] pos) m H Q :=
  meth_of (by decide +kernel) PySem.F.slot_list_append (by kernel_rfl) hok h
theorem meth_pop (hok : methOK o apos pos args = true)
    (h : EvE c o m H fun ov H1 => ∃ a xs, ov = .ref a ∧ H1 a = some (.list xs) ∧ EvL c pos args m H1 fun vs H2 => Calls c.g c.n (.builtin "list.pop") (ov :: vs) [] H2 Q) : EvE c (.Call (.Attribute o (Str.ofString "pop") apos) args [] pos) m H Q :=
  meth_of (by decide +kernel) PySem.F.slot_list_pop (by kernel_rfl) hok h
theorem meth_insert (hok : methOK o apos pos args = true)
    (h : EvE c o m H fun ov H1 => ∃ a xs, ov = .ref a ∧ H1 a = some (.list xs) ∧ EvL c pos args m H1 fun vs H2 => Calls c.g c.n (.builtin "list.insert") (ov :: vs) [] H2 Q) : EvE c (.Call (.Attribute o (Str.ofString "insert") apos) args [] pos) m H Q :=
  meth_of (by decide +kernel) PySem.F.slot_list_insert (by kernel_rfl) hok h
end
section
variable {c : Cx} {m : Vars} {H : HF} {rest : List Stmt} {Q : Fl → Vars → HF → Prop} {σ : Type} {Mv : σ → Vars} {Hh : σ → HF} {S : σ → Prop}
/-- where paths meet -/
noncomputable def Cut (Mv : σ → Vars) (Hh : σ → HF) (S : σ → Prop) (Q : Fl → Vars → HF → Prop) : Fl → Vars → HF → Prop
  | .next, m, H => ∃ st, S st ∧ Vars.Le (Mv st) m ∧ (Hh st).Le H
  | f, m, H => Q f m H
theorem bar {p : Prop} (h : p) : p := h
theorem gen_end {T' T : Fl → Vars → HF → Prop} {f : Fl} {m : Vars} {H : HF} (e : T' = T) (h : T' f m H) : T f m H := e ▸ h
theorem Cut_next (h : ∃ st, S st ∧ Vars.Le (Mv st) m ∧ (Hh st).Le H) : Cut Mv Hh S Q .next m H := h
theorem Cut_ret {v : PV} (h : Q (.ret v) m H) : Cut Mv Hh S Q (.ret v) m H := h
theorem EvS_cut {st : Stmt} (Mv : σ → Vars) (Hh : σ → HF) (S : σ → Prop) (h1 : EvS c st m H (Cut Mv Hh S (Then c rest Q))) (h2 : ∀ t, S t → EvSs c rest (Mv t) (Hh t) Q) : EvS c st m H (Then c rest Q) := by
  refine EvS.mono h1 fun fl m1 H1 hq => ?_
  cases fl with
  | next =>
    obtain ⟨t, a, b, d⟩ := hq
    exact EvM.weak b d (h2 t a)
  | _ => exact hq
end
end Mine
end
section
open PySem PySem.Calls PyProof.Rows
namespace Mine
theorem band_nat (a b : Nat) : Builtin.bitAnd (a : Int) (b : Int) = ((a &&& b : Nat) : Int) := by
  rw [bitAnd_pp (Int.natCast_nonneg _) (Int.natCast_nonneg _), Int.toNat_natCast, Int.toNat_natCast]
theorem bor_nat (a b : Nat) : Builtin.bitOr (a : Int) (b : Int) = ((a ||| b : Nat) : Int) := by
  show Builtin.bitNot (Builtin.bitAnd (Builtin.bitNot a) (Builtin.bitNot b)) = _
  have h1 : ¬ 0 ≤ Builtin.bitNot (a : Int) := by unfold Builtin.bitNot; omega
  have h2 : ¬ 0 ≤ Builtin.bitNot (b : Int) := by unfold Builtin.bitNot; omega
  rw [bitAnd_nn h1 h2]
  have h3 : ∀ x : Int, Builtin.bitNot (Builtin.bitNot x) = x := fun x => by unfold Builtin.bitNot; omega
  rw [h3, h3, h3]
  simp
theorem band_mask (a k : Nat) : Builtin.bitAnd (a : Int) ((2 ^ k - 1 : Nat) : Int) = ((a % 2 ^ k : Nat) : Int) := by
  rw [band_nat, Nat.and_two_pow_sub_one_eq_mod]
theorem bor_add {a b k : Nat} (h : b < 2 ^ k) : Builtin.bitOr ((a * 2 ^ k : Nat) : Int) (b : Int) = ((a * 2 ^ k + b : Nat) : Int) := by
  rw [bor_nat]
  have := Nat.shiftLeft_add_eq_or_of_lt h a
  rw [Nat.shiftLeft_eq] at this
  rw [this]
section
variable {g : G} {n : Nat} {H : HF} {Q : PV → HF → Prop}
theorem bin_mask {a : Nat} {x : Int} (k : Nat) (hx : x = ((2 ^ k - 1 : Nat) : Int)) (h : Q (.int (a % 2 ^ k : Nat)) H) : BinO g n .BitAnd (.int a) (.int x) H Q :=
  bin_and (by rw [hx, band_mask]; exact h)
theorem bin_orN {a b : Nat} (k : Nat) (hb : b < 2 ^ k) (h : Q (.int (a * 2 ^ k + b : Nat)) H) : BinO g n .BitOr (.int (a * 2 ^ k : Nat)) (.int b) H Q :=
  bin_or (by rw [bor_add hb]; exact h)
theorem ibin_orN {a b : Nat} (k : Nat) (hb : b < 2 ^ k) (h : Q (.int (a * 2 ^ k + b : Nat)) H) : IBinO g n .BitOr (.int (a * 2 ^ k : Nat)) (.int b) H Q :=
  ibin_or (by rw [bor_add hb]; exact h)
theorem bin_shlN {a : Nat} {y : Int} (k : Nat) (hy : y = (k : Int)) (hk : k ≤ 1000) (ha : a < 2 ^ 64) (h : Q (.int (a * 2 ^ k : Nat)) H) : BinO g n .LShift (.int a) (.int y) H Q := by
  subst hy
  refine bin_shl (by with_reducible exact Int.natCast_nonneg _) (by with_reducible exact si6 (by assumption)) (by rw [Int.natAbs_natCast]; exact ha) ?_
  rw [Int.toNat_natCast]
  push_cast at h; exact h
theorem ibin_shlN {a : Nat} {y : Int} (k : Nat) (hy : y = (k : Int)) (hk : k ≤ 1000) (ha : a < 2 ^ 64) (h : Q (.int (a * 2 ^ k : Nat)) H) : IBinO g n .LShift (.int a) (.int y) H Q := by
  subst hy
  refine ibin_shl (by with_reducible exact Int.natCast_nonneg _) (by with_reducible exact si6 (by assumption)) (by rw [Int.natAbs_natCast]; exact ha) ?_
  rw [Int.toNat_natCast]
  push_cast at h; exact h
theorem bin_shrN {a : Nat} {y : Int} (k : Nat) (hy : y = (k : Int)) (h : Q (.int (a / 2 ^ k : Nat)) H) : BinO g n .RShift (.int a) (.int y) H Q := by
  subst hy
  refine bin_shr (by with_reducible exact Int.natCast_nonneg _) ?_
  rw [Int.toNat_natCast]
  have e : ((2 : Int) ^ k) = ((2 ^ k : Nat) : Int) := by push_cast; rfl
  rw [e, Int.fdiv_eq_ediv_of_nonneg _ (Int.natCast_nonneg _)]
  exact h
theorem bin_addN {a b : Nat} {x : Int} (hx : x = (b : Int)) (h : Q (.int (a + b : Nat)) H) : BinO g n .Add (.int a) (.int x) H Q := by
  subst hx; exact bin_add (by push_cast at h; exact h)
theorem bin_modN {a b : Nat} {x : Int} (hx : x = (b : Int)) (hb : 0 < b) (h : Q (.int (a % b : Nat)) H) : BinO g n .Mod (.int a) (.int x) H Q := by
  subst hx
  refine bin_mod (by (intro _; with_reducible exact tS (by assumption) (by assumption))) ?_
  rw [Int.fmod_eq_emod_of_nonneg _ (Int.natCast_nonneg _)]
  exact h
theorem bin_divN {a b : Nat} {x : Int} (hx : x = (b : Int)) (hb : 0 < b) (hb2 : b < 1073741824) (h : Q (.int (a / b : Nat)) H) : BinO g n .FloorDiv (.int a) (.int x) H Q := by
  subst hx
  refine bin_div (by (intro _; with_reducible exact tS (by assumption) (by assumption))) (by simpa using hb2) ?_
  rw [Int.fdiv_eq_ediv_of_nonneg _ (Int.natCast_nonneg _)]
  exact h
theorem sub_bytesN {v i : Expr} {b : List UInt8} {k : Nat} (hs : notSlice i = true) (h1 : k < b.length) (hb : b.length ≤ 100000) (h : Q (.int (b.getD k 0).toNat) H) : SubO g n v i (.bytes b) (.int k) H Q :=
  sub_bytes hs (by with_reducible exact Int.natCast_nonneg _) (by with_reducible exact Int.ofNat_lt.mpr (by assumption)) hb (by rw [Int.toNat_natCast]; exact h)
end
/-- natural numbers as values, as bytes -/
noncomputable def ni (l : List Nat) : List PV := l.map fun (x : Nat) => .int (x : Int)
noncomputable def by8 (l : List Nat) : List UInt8 := l.map Nat.toUInt8
noncomputable def Small (l : List Nat) : Prop := ∀ x ∈ l, x < 256
theorem ni_append (l k : List Nat) : ni (l ++ k) = ni l ++ ni k := by simp [ni]
theorem ni_length (l : List Nat) : (ni l).length = l.length := by simp [ni]
theorem by8_length (l : List Nat) : (by8 l).length = l.length := by simp [by8]
theorem by8_items {l : List Nat} (h : Small l) : (Src.bytes (by8 l)).items = ni l := by
  show (by8 l).map _ = _
  unfold by8 ni
  rw [List.map_map]
  refine List.map_congr_left fun x hx => ?_
  have := h x hx
  simp only [Function.comp]
  rw [UInt8.toNat_ofNat', Nat.mod_eq_of_lt this]
theorem ni_get {l : List Nat} {i : Nat} {p : PV} (h : (ni l)[i]? = some p) : ∃ b, l[i]? = some b ∧ p = .int (b : Int) := by
  unfold ni at h
  rw [List.getElem?_map] at h
  cases e : l[i]? with
  | none => rw [e] at h; (first | exact nsF h | exact snF h | cases h)
  | some b => rw [e] at h; (first | exact nsF h | exact snF h | cases h); exact ⟨b, rfl, rfl⟩
theorem ni_get_none {l : List Nat} {i : Nat} (h : (ni l)[i]? = none) : l.length ≤ i := by
  have : (ni l).length ≤ i := by simpa using h
  rwa [ni_length] at this
theorem ni_getD {l : List Nat} {i : Nat} (h : i < l.length) : (ni l)[i]? = some (.int (l.getD i 0 : Nat)) := by
  simp [ni, List.getElem?_eq_getElem h]
theorem calls_bytesN {g : G} {n : Nat} {H : HF} {Q : PV → HF → Prop} {a : Addr} {l : List Nat} (hH : H a = some (.list (ni l))) (hr : Small l) (hz : l.length ≤ 100000) (h : Q (.bytes (by8 l)) H) : Calls g n (.type "bytes") [.ref a] [] H Q := by
  have e : ni l = (l.map fun (x : Nat) => (x : Int)).map .int := by simp [ni]
  rw [e] at hH
  refine calls_bytes hH (fun x hx => ?_) (by simpa using hz) ?_
  · obtain ⟨y, hy, rfl⟩ := List.mem_map.mp hx
    have := hr y hy
    with_reducible exact cs6 (by assumption)
  · have e2 : byteL (l.map fun (x : Nat) => (x : Int)) = by8 l := by simp [byteL, by8]
    rw [e2]; exact h
end Mine
end
section
open PySem PySem.Calls PyProof.Rows
namespace Mine
/-- the heap without some objects -/
noncomputable def erase (D : List Addr) (h : Heap) : Heap := { h with objs := h.objs.mapIdx fun i o => if i ∈ D then { o with data := .freed } else o }
theorem erase_get (D : List Addr) (h : Heap) (b : Addr) : (erase D h).get? b = if b ∈ D then none else h.get? b := by
  unfold erase Heap.get?
  simp only [Array.getElem?_mapIdx]
  cases e : h.objs[b]? with
  | none => simp
  | some o =>
    simp only [Option.map_some]
    split <;> rename_i hb
    · split at hb <;> simp_all
    · split <;> simp_all
/-- h1 is the ground: all but the frames D stays -/
structure Bas (g : G) (Fs : List Addr) (R : RF) (H : HF) (D : List Addr) (h1 : Heap) : Prop where
  hi : HI g Fs R H h1
  fr : ∀ L ∈ D, g.h₀.get? L = none ∧ H L = none ∧ ∃ o es ep, h1.get? L = some o ∧ o.data = .dict es ep
theorem Bas.land {g : G} {Fs : List Addr} {R : RF} {H : HF} {D : List Addr} {h1 h' : Heap} (B : Bas g Fs R H D h1) (st : (erase D h1).StaysIn h') (up : h1.UpToSlots h') : HI g Fs R H h' ∧ TupKeep h1 h' := by
  have ex : ∀ b o, b ∉ D → h1.get? b = some o → h'.get? b = some o := fun b o hb e => st b o (by rw [erase_get, if_neg hb]; exact e)
  have tk : TupKeep h1 h' := fun b o e q => ex b o (fun hb => by
    obtain ⟨_, _, o2, es, ep, e2, d2⟩ := B.fr b hb
    rw [e] at e2; (first | exact nsF e2 | exact snF e2 | cases e2)
    obtain ⟨_, vs, n, d⟩ := q
    rw [d2] at d; (first | exact nsF d | exact snF d | cases d)) e
  refine ⟨⟨fun b o e => ?_, fun b o e => ?_, fun a x e => ?_, fun L hL => ?_⟩, tk⟩
  · refine ex b o (fun hb => ?_) (B.hi.base b o e)
    rw [(B.fr b hb).1] at e; (first | exact nsF e | exact snF e | cases e)
  · obtain ⟨o', e', k⟩ := B.hi.rest b o e
    by_cases hb : b ∈ D
    · refine opq fun Gq hGq => ?_
      obtain ⟨_, _, o2, es, ep, e2, d2⟩ := B.fr b hb
      refine hGq ?_
      rw [e'] at e2; (first | exact nsF e2 | exact snF e2 | cases e2)
      obtain ⟨sl, e3⟩ := up b _ e' fun vs q => by rw [d2] at q; (first | exact nsF q | exact snF q | cases q)
      exact ⟨_, e3, k.trans (.inr ⟨es, ep, sl, d2, rfl⟩)⟩
    · exact ⟨o', ex b o' hb e', k⟩
  · refine opq fun Gq hGq => ?_
    obtain ⟨p, q, o, e2, x2⟩ := B.hi.mine a x e
    refine hGq ?_
    exact ⟨p, q, o, ex a o (fun hb => by rw [(B.fr a hb).2.1] at e; (first | exact nsF e | exact snF e | cases e)) e2, x2.keeps tk⟩
  · refine opq fun Gq hGq => ?_
    obtain ⟨p, q, o, es, ep, e2, d2⟩ := B.hi.frs L hL
    obtain ⟨sl, e3⟩ := up L _ e2 fun vs z => by rw [d2] at z; (first | exact nsF z | exact snF z | cases z)
    refine hGq ?_
    exact ⟨p, q, _, es, ep, e3, d2⟩
/-- an exception flies -/
noncomputable def Flies (g : G) (Fs : List Addr) (R : RF) (X : HF → Prop) (T : String) (l : List Env) (s : Shared) (v : Value) (s' : Shared) : Prop :=
  ∃ e a0 H' D h1, v = .ref e ∧ X H' ∧ Bas g Fs R H' D h1 ∧ Heap.FlyingW (erase D h1) l e (.type T) a0 s'.heap ∧ h1.UpToSlots s'.heap ∧ Same s s' ∧ (∀ b ∈ Fs, b ∈ D)
/-- `next` of bytes that are at their end -/
theorem next_raises {g : G} {A : Around} {Fs : List Addr} {R : RF} {H : HF} {s : Shared} {Q : Value → Shared → Prop} {E : Value → Shared → Prop} {b : List UInt8} {a : Addr} {i : Nat} (hh : A.handled = none) (I : HI g Fs R H s.heap) (hH : H a = some (.biter b i)) (hc : b[i]? = none)
    (h : ∀ h1 h' e oe vs a0, (∃ o', Heap.SameBut a s.heap h1 ∧ h1.get? a = some o' ∧ AO.plain.Is h1 { o' with cls := .type "object" }) → Ext h1 h' → h1.get? e = none → h'.get? e = some oe → oe.cls = .type "StopIteration" → oe.data = .fields vs → vs[1]? = some .none → vs[0]? = some a0 → E (.ref e) { s with heap := h' }) :
    wpAny (model g.prog g.w) A (call (.builtin "next") [.ref a]) Q E s := by
  refine opq fun Gq hGq => ?_
  obtain ⟨_, _, o, ho, t, rfl⟩ := I.mine a _ hH
  refine hGq ?_
  have hT : s.TypeIs (.ref a) "bytes_iterator" := ⟨_, ho, rfl⟩
  refine call_function_entry (by decide +kernel) (by decide +kernel) entry_next' (args_next1 _) ?_
  unfold Builtin.«next»
  refine wpAny_bind (m := someArgs "next" 1 2 _) (wpAny_of_eq (a := [Value.ref a]) (by first | rfl | kernel_rfl!) ?_)
  dsimp only
  refine wpAny_bind (wpAny_specialOf (name := Str.ofString "__next__") hT PySem.W.KBw.slot_next.lookup ?_)
  refine wpAny_ite_split (fun hab => absurd hab (by decide)) (fun _ => ?_)
  refine wpAny_bind (wpAny_callSpecial?_slot (name := PySem.Str.ofString "__next__") hT PySem.W.KBw.slot_next
    (wpAny_call_entry PySem.W.KBw.slot_next hT PySem.W.KBw.entry_next ?_ (PySem.W.KBw.args_next _)))
  show wpAny _ _ (field (.ref a) 0 >>= _) _ _ s
  refine wpAny_bind (wpAny_field ho rfl (x := .bytes b.toArray t) rfl ?_)
  show wpAny _ _ (if (Value.bytes b.toArray t == Value.none) = true then _ else _) _ _ s
  rw [if_neg (show ¬ ((Value.bytes b.toArray t == Value.none) = true) from Bool.false_ne_true)]
  show wpAny _ _ (field (.ref a) 1 >>= _) _ _ s
  refine wpAny_bind (wpAny_field ho rfl (x := .int i 0) rfl ?_)
  refine wpAny_bind (wpAny_of_eq (a := b.toArray) rfl ?_)
  have hc' : b.toArray[i]? = none := by simpa using hc
  simp only [Int.toNat_natCast, hc']
  refine wpAny_bind (wpAny_rule (wpAny_bind (wpAny_setField ho rfl (by simp) ?_)))
  refine wpAny_bind ?_
  simp only [newExc, newTuple]
  refine wpAny_bind (wpAny_newObj_type ?_ (by size_fits))
  refine wpAny_bind (m := firstArgMember _ _) (wpAny_of_eq (a := Value.none) (by first | rfl | (simp only [firstArgMember]; rfl)) ?_)
  refine wpAny_newObj_type ?_ (by size_fits)
  refine wpAny_raiseNew_none hh ?_
  have ho' := Heap.get?_update_self (Obj.mapFields (·.setIfInBounds 0 Value.none)) ho rfl
  refine h _ _ _ _ _ _ ⟨_, Heap.SameBut.update .., ho', rfl, fun _ _ q => (by cases q)⟩ ((Ext.push _ _).trans (Ext.push _ _)) ?_ (Heap.get?_push_size _ rfl) rfl rfl rfl rfl
  exact Heap.get?_none_of_le (by simp)
end Mine
end
section
open PySem PySem.Calls PyProof.Rows
namespace Mine
noncomputable def HF.del (H : HF) (a : Addr) : HF := fun b => if b = a then none else H b
theorem HF.del_le (H : HF) (a : Addr) : (H.del a).Le H := fun b x e => by
  unfold HF.del at e; split at e
  · (first | exact nsF e | exact snF e | obtain rfl := Option.some.inj e | cases e)
  · exact e
theorem HF.del_other {H : HF} {a b : Addr} (h : b ≠ a) : H.del a b = H b := if_neg h
theorem HF.del_self (H : HF) (a : Addr) : H.del a a = none := if_pos rfl
theorem HI.del {g : G} {Fs : List Addr} {R : RF} {H : HF} {h h' : Heap} {a : Addr} {x : AO} (I : HI g Fs R H h) (ha : H a = some x) (hs : Heap.SameBut a h h') : HI g Fs R (H.del a) h' ∧ TupKeep h h' := by
  obtain ⟨hB, hR, _⟩ := I.mine a x ha
  have hk := I.tupKeep ha hs
  refine ⟨⟨fun b o e => (hs.2 b ?_).trans (I.base b o e), fun b o e => ?_, fun b z e => ?_, fun L hL => ?_⟩, hk⟩
  · rintro rfl; rw [hB] at e; (first | exact nsF e | exact snF e | obtain rfl := Option.some.inj e | cases e)
  · obtain ⟨o', e', q⟩ := I.rest b o e
    exact ⟨o', (hs.2 b (by rintro rfl; rw [hR] at e; (first | exact nsF e | exact snF e | obtain rfl := Option.some.inj e | cases e))).trans e', q⟩
  · by_cases hb : b = a
    · (first | (rw [hb, HF.del_self] at e; exact nsF e) | (rw [← hb, HF.del_self] at e; exact nsF e) | (rw [hb, HF.del_self] at e; exact snF e) | (rw [← hb, HF.del_self] at e; exact snF e) | (subst hb; rw [HF.del_self] at e; (first | exact nsF e | exact snF e | obtain rfl := Option.some.inj e | cases e)))
    · rw [HF.del_other hb] at e
      refine opq fun Gq hGq => ?_
      obtain ⟨p, q, o, h1, h2⟩ := I.mine b z e
      refine hGq ?_
      exact ⟨p, q, o, (hs.2 b hb).trans h1, h2.keeps hk⟩
  · refine opq fun Gq hGq => ?_
    obtain ⟨p, q, o, es, ep, e, d⟩ := I.frs L hL
    refine hGq ?_
    have hLa : L ≠ a := by rintro rfl; rw [q] at ha; (first | exact nsF ha | exact snF ha | obtain rfl := Option.some.inj ha | cases ha)
    exact ⟨p, by rw [HF.del_other hLa]; exact q, o, es, ep, (hs.2 L hLa).trans e, d⟩
/-- within a frame: an exception flies -/
noncomputable def FliesI (c : Cx) (env : Env) (Fs : List Addr) (R : RF) (m : Vars) (X : HF → Prop) (T : String) (l : List Env) (s : Shared) (v : Value) (s' : Shared) : Prop :=
  ∃ e a0 H' D h1, v = .ref e ∧ X H' ∧ Inv c env Fs R m H' h1 ∧ Bas c.g Fs R H' D h1 ∧ Heap.FlyingW (erase D h1) l e (.type T) a0 s'.heap ∧ h1.UpToSlots s'.heap ∧ Same s s'
noncomputable def RaiseC (g : G) (n : Nat) (f : PV) (vs : List PV) (H : HF) (X : HF → Prop) (T : String) : Prop :=
  ∀ (A : Around) (l : List Env) (Fs : List Addr) (R : RF) (s : Shared) (E : Value → Shared → Prop) (Q : Value → Shared → Prop) (fv : Value) (vvs : List Value), Room n Fs A → A.frames = some l → HI g Fs R H s.heap → Den s.heap f fv → DenL s.heap vs vvs →
    (∀ v s', Flies g Fs R X T l s v s' → E v s') → wpAny (model g.prog g.w) A (call fv vvs) Q E s
noncomputable def RaiseSs (c : Cx) (ss : List Stmt) (m : Vars) (H : HF) (X : HF → Prop) (T : String) : Prop :=
  ∀ (A : Around) (env : Env) (l : List Env) (Fs : List Addr) (R : RF) (s : Shared) (E : Value → Shared → Prop) (Q : Flow → Shared → Prop), Room c.n Fs A → EnvOK c A env → A.frames = some l → Inv c env Fs R m H s.heap →
    (∀ v s', FliesI c env Fs R m X T l s v s' → E v s') → wpAny (model c.g.prog c.g.w) A (execs ss env) Q E s
theorem landI {c : Cx} {env : Env} {Fs : List Addr} {R : RF} {m : Vars} {H : HF} {D : List Addr} {h1 h' : Heap} (I : Inv c env Fs R m H h1) (B : Bas c.g Fs R H D h1) (st : (erase D h1).StaysIn h') (up : h1.UpToSlots h') : Inv c env Fs R m H h' :=
  (I.back (Bas.land (R := restR H h1) ⟨I.hi.restR, B.fr⟩ st up).1).1
section
variable {c : Cx} {m : Vars} {H : HF}
/-- the first statement raises, as what it calls does -/
theorem raise_call {A : Around} {env : Env} {Fs : List Addr} {R : RF} {s : Shared} {E : Value → Shared → Prop} {Q : Value → Shared → Prop} {x : Str} {xp pos : Pos} {args : List Expr} {Z : PV → List PV → HF → Prop} (ha : args.all (fun e => !isStar e) = true)
    (r : Room c.n Fs A) (eo : EnvOK c A env) (I : Inv c env Fs R m H s.heap)
    (h : EvE c (.Name x xp) m H fun f H1 => EvL c pos args m H1 fun vs H2 => Callee c.g f ∧ Z f vs H2)
    (k : ∀ f vs H2 fv vvs s2, Z f vs H2 → Den s2.heap f fv → DenL s2.heap vs vvs → Inv c env Fs R m H2 s2.heap → Same s s2 → wpAny (model c.g.prog c.g.w) A (call fv vvs) Q E s2) :
    wpAny (model c.g.prog c.g.w) A (eval (.Call (.Name x xp) args [] pos) env) Q E s := by
  refine wpAny_Call_Name_kw ?_
  refine EvE.bd h r eo I fun f s1 p1 H1 q1 d1 I1 e1 k1 => ?_
  refine callWith_any (ps := []) (kws := []) ha rfl rfl ?_
  refine EvL.bd q1 r eo I1 fun vs s2 p2 H2 xq11 d2 I2 e2 k2 => ?_
  obtain ⟨hc, q2⟩ := xq11
  refine wpAny_pure ⟨?_, ?_⟩
  · cases p1 <;> first
      | exact hc.elim
      | (left; intro a q; subst q; (first | exact nsF d1 | exact snF d1 | obtain rfl := Option.some.inj d1 | cases d1); done)
      | (obtain ⟨o, fd, h1, h2⟩ := hc
         (first | exact nsF d1 | exact snF d1 | obtain rfl := Option.some.inj d1 | cases d1)
         exact .inr ⟨_, o, fd, rfl, I2.hi.base _ _ h1, h2⟩)
  · exact k p1 p2 H2 f vs s2 q2 (d1.keeps k2) d2 I2 (e1.trans e2)
theorem raise_assign {A : Around} {env : Env} {s : Shared} {E : Value → Shared → Prop} {Q : Flow → Shared → Prop} {t value : Expr} {pos : Pos} {rest : List Stmt} (hsw : swapsWithSole [t] value pos.line env = pure false)
    (h : wpAny (model c.g.prog c.g.w) A (eval value env) (fun _ _ => False) E s) : wpAny (model c.g.prog c.g.w) A (execs (.Assign [t] value pos :: rest) env) Q E s := by
  refine wpAny_execs_cons ?_
  rw [arm_exec_Assign, hsw]
  refine wpAny_bind (wpAny_standAt (wpAny_bind (wpAny_pure ?_)))
  simp only [Bool.false_eq_true, if_false]
  exact wpAny_bind (wpAny_mono h (fun a s1 q => q.elim) fun _ _ x => x)
end
theorem setFlight_someW {M : Model} {A : Around} {E : Value → Shared → Prop} {s : Shared} {base : Heap} {l : List Env} {e L : Addr} {cls a0 : Value} {Q : Unit → Shared → Prop} (hh : Heap.HeldW base l e cls a0 L s.heap)
    (hQ : ∀ h', Heap.HeldW base l e cls a0 L h' → s.heap.UpToSlots h' → Q () { s with heap := h' }) : wpAny M A (setFlight (.ref e) (some L)) Q E s := by
  refine opq fun Gq hGq => ?_
  obtain ⟨f1, f2, f3, oe, vs, T, oT, ts, he, hcls, hd, h1, hnT, hTe, hT, hdT, h3⟩ := hh
  refine hGq ?_
  have hsz3 : 3 < ts.size := (Array.getElem?_eq_some_iff.mp h3).1
  have other : ∀ b, b ≠ T → (s.heap.update T (Obj.mapFields (·.setIfInBounds 3 ((some L : Option Addr).elim Value.none fun f => rawInt f)))).get? b = s.heap.get? b :=
    fun b hb => Heap.get?_update_other _ _ (Ne.symm hb)
  have noRecord : ∀ b o, s.heap.get? b = some o → (∀ vs, o.data ≠ .fields vs) → b ≠ T := fun b o hb hnf q => by
    rw [q, hT] at hb; injection hb with hb; subst hb; exact hnf ts hdT
  unfold setFlight
  refine wpAny_bind (wpAny_field he hd h1 ?_)
  rw [if_pos (show (Value.ref T != Value.none) = true from by simp)]
  refine wpAny_setField hT hdT hsz3 (hQ _ ⟨fun b o hbo => (other b fun q => by rw [q, hnT] at hbo; (first | exact nsF hbo | exact snF hbo | cases hbo)).trans (f1 b o hbo), f2,
    f3.of_keeps fun b o hb hnf => ⟨o, (other b (noRecord b o hb hnf)).trans hb, rfl⟩, ?_⟩ fun b o hb hnf => ⟨o.slots, (other b (noRecord b o hb hnf)).trans hb⟩)
  exact ⟨oe, vs, T, _, _, (other e (Ne.symm hTe)).trans he, hcls, hd, h1, hnT, hTe, Heap.get?_update_self _ hT (Obj.isFreed_of_fields (Obj.data_mapFields hdT _)), Obj.data_mapFields hdT _, by simp [hsz3]⟩
theorem cameBack_held {M : Model} {A : Around} {E : Value → Shared → Prop} {s : Shared} {base : Heap} {l : List Env} {e L : Addr} {cls a0 : Value} {env : Env} (hf : env.frame = some L) (hh : Heap.HeldW base l e cls a0 L s.heap)
    (hQ : ∀ h', Heap.HeldW base l e cls a0 L h' → s.heap.UpToSlots h' → E (.ref e) { s with heap := h' }) : cameBackBy M A env E (.ref e) s := by
  unfold cameBackBy
  refine opq fun Gq hGq => ?_
  obtain ⟨f1, f2, f3, oe, vs, T, oT, ts, he, hcls, hd, h1, _⟩ := id hh
  refine hGq ?_
  refine wpAny_bind (wpAny_field he hd h1 ?_)
  rw [if_neg (show ¬ ((Value.ref T == Value.none) = true) from by simp)]
  rw [hf]
  exact setFlight_someW hh hQ
end Mine
end
section
open PySem PySem.Calls PyProof.Rows
namespace Mine
theorem stop_exc : isSubtype (.type "StopIteration") (.type "BaseException") = pure true := by rw [isSubtype_type]; kernel_rfl
theorem stop_nt : isSubtype (.type ((Manifest.find? "StopIteration").elim "type" fun x => x.metatype)) (.type "tuple") = pure false := by
  rw [show ((Manifest.find? "StopIteration").elim "type" fun x => x.metatype) = "type" from by decide +kernel, isSubtype_type]; kernel_rfl
theorem stop_stop : isSubtype (.type "StopIteration") (.type "StopIteration") = pure true := by rw [isSubtype_type]; kernel_rfl
section
variable {c : Cx} {m : Vars} {H : HF}
theorem EvS_TryStop {σ : Type} (Mv : σ → Vars) (Hh : σ → HF) (S : σ → Prop) (μ : σ → Nat) {body : List Stmt} {x : Str} {k : Nat} {p1 p2 p3 p4 p5 p6 p7 : Pos} {Q : Fl → Vars → HF → Prop} (htp : c.tp = true)
    (hx : kindIn c x = some .local) (hxd : (x == ("__debug__" : Str)) = false) (hs : kindIn c (Str.ofString "StopIteration") = some .globalImplicit) (hg : c.g.glob.lookup (Str.ofString "StopIteration") = some (.type "StopIteration"))
    (h0 : ∃ st, S st ∧ Vars.Le (Mv st) m ∧ (Hh st).Le H)
    (h : ∀ st, S st → EvSs c body (Mv st) (Hh st) (TurnEnd Mv Hh (fun st' => S st' ∧ μ st' < μ st) Q) ∨
      RaiseSs c body (Mv st) (Hh st) (fun H' => ∃ v, (Mv st).lookup x = some v ∧ Q (.ret v) (Mv st) H') "StopIteration") :
    EvS c (.Try [.While (.Constant (.bool true) k p1) body [] p2] [.ExceptHandler (some (.Name (Str.ofString "StopIteration") p3)) none [.Return (some (.Name x p4)) p5] p6] [] [] p7) m H Q := by
  refine EvM.mk fun A env Fs R s E r eo I => wpAny_Try_except (wpAny_execs_cons (wpAny_While ?_))
  refine opq fun Gq hGq => ?_
  obtain ⟨outer, hfr, hef⟩ := eo.top htp
  obtain ⟨st, xz⟩ := h0
  have hS := xz.1
  have hm := xz.2.1
  have hH := xz.2.2
  refine hGq ?_
  refine codeAny_whileLoop (fun n s' => ∃ st, S st ∧ μ st = n ∧ Inv c env Fs R (Mv st) (Hh st) s'.heap ∧ Same s s') (fun n s1 hI => ?_) (μ st) ⟨st, hS, rfl, I.less hm hH, Same.rfl'⟩
  refine opq fun Gq hGq => ?_
  obtain ⟨st, xz⟩ := hI
  have hS := xz.1
  obtain rfl := xz.2.1
  have I1 := xz.2.2.1
  have e1 := xz.2.2.2
  refine hGq ?_
  have ht : EvT c (.Constant (.bool true) k p1) (Mv st) (Hh st) (fun b H' => b = true ∧ H' = Hh st) := EvT_value rfl (EvE_bool (tru_bool ⟨rfl, rfl⟩))
  refine EvT.bd ht r eo I1 fun a s2 H2 xq12 I2 e2 k2 => ?_
  have hb := xq12.1
  have hH2 := xq12.2
  subst hb hH2
  simp only [if_true]
  rcases h st hS with hn | hr
  · refine EvM.bd hn r eo I2 fun v s3 p3 m3 H3 q3 d3 I3 e3 k3 => ?_
    have e5 := (e1.trans e2).trans e3
    cases p3 with
    | next => cases d3; obtain ⟨st', xz⟩ := q3; obtain ⟨z1, z2⟩ := xz.1; have z3 := xz.2.1; have z4 := xz.2.2; exact ⟨_, z2, st', z1, rfl, I3.less z3 z4, e5⟩
    | cont => cases d3; obtain ⟨st', xz⟩ := q3; obtain ⟨z1, z2⟩ := xz.1; have z3 := xz.2.1; have z4 := xz.2.2; exact ⟨_, z2, st', z1, rfl, I3.less z3 z4, e5⟩
    | brk =>
      cases d3
      refine wpAny_execs_nil ?_
      exact wpAny_execs_nil ⟨.next, m3, H3, q3, rfl, I3, e5⟩
    | ret p => obtain ⟨w, rfl, d⟩ := d3; exact ⟨.ret p, m3, H3, q3, ⟨w, rfl, d⟩, I3, e5⟩
  · refine hr A env (env :: outer) Fs R s2 _ _ r eo hfr I2 fun v s3 hF => ?_
    refine opq fun Gq hGq => ?_
    obtain ⟨e, a0, H', D, h1, xz⟩ := hF
    obtain rfl := xz.1
    obtain ⟨rv, hrv, hQ⟩ := xz.2.1
    have J := xz.2.2.1
    have B := xz.2.2.2.1
    have hfl := xz.2.2.2.2.1
    have up := xz.2.2.2.2.2.1
    have e3 := xz.2.2.2.2.2.2
    refine hGq ?_
    show wpAny _ A (noteFrame (.ref e) env) _ _ s3
    refine wpAny_looks_onW hfr hef hfl fun h4 hh4 u4 => ?_
    refine cameBack_held hef hh4 fun h5 hh5 u5 => ?_
    refine wpAny_noteFrame_againW hef hh5.2.2.2 ?_
    refine wpAny_landsW hh5 fun h6 hf6 u6 => ?_
    refine wpAny_handleBy_builtin (X := "StopIteration") (T := "StopIteration") (b := true) stop_exc stop_nt stop_stop ?_
    have up6 := ((up.trans u4).trans u5).trans u6
    have J6 : Inv c env Fs R (Mv st) H' h6 := landI J B hf6.1 up6
    have hkf : env.scope.kind = .function := by rw [eo.scope]; exact eo.kind
    have hkx : env.kindOf (Str.ofString "StopIteration") = some .globalImplicit := by unfold Env.kindOf; rw [eo.scope]; exact hs
    refine Name_function_global hkf hkx ?_ (by decide +kernel)
    refine opq fun Gq hGq => ?_
    obtain ⟨mg, mb, n1, n2, hn⟩ := c.g.names
    obtain ⟨w, d, hw⟩ := hn _ _ hg
    refine hGq ?_
    have hcont : (Value.type "StopIteration" = Value.type "StopIteration" ∧ ({ s3 with heap := h6 } : Shared).TypeIs (.ref e) "StopIteration" ∧ wpAny (model c.g.prog c.g.w) (A.mark (some (.ref e))) (setFlight (.ref e) none) (fun _ s₂ => wpAny (model c.g.prog c.g.w) (A.mark (some (.ref e))) (execs [.Return (some (.Name x p4)) p5] env)
        (MR c env Fs R s FlRel Q) (notedBy (model c.g.prog c.g.w) (A.mark (some (.ref e))) env (cameBackBy (model c.g.prog c.g.w) A env E)) s₂) (notedBy (model c.g.prog c.g.w) (A.mark (some (.ref e))) env (cameBackBy (model c.g.prog c.g.w) A env E)) { s3 with heap := h6 }) := by
      refine ⟨rfl, hf6.there, ?_⟩
      refine wpAny_setFlight_noneW hf6.1 hf6.2.2.1 hf6.2.2.2.at fun h7 x1 x2 x3 x4 => ?_
      have J7 : Inv c env Fs R (Mv st) H' h7 := landI J B x1 (up6.trans fun b o hb hn => ⟨o.slots, x4 b o hb hn⟩)
      refine wpAny_execs_cons (wpAny_Return_some (wpAny_Name ?_ hxd))
      refine opq fun Gq hGq => ?_
      obtain ⟨mv, nn, hm⟩ := J7.locs
      obtain ⟨u, hu, du⟩ := hm x rv hrv hx
      refine hGq ?_
      refine wpAny_loadName_local hkf (by unfold Env.kindOf; rw [eo.scope]; exact hx) nn hu ?_
      exact ⟨.ret rv, Mv st, H', hQ, ⟨u, rfl, du⟩, J7, ((e1.trans e2).trans e3).trans Same.heap⟩
    cases d
    rcases hw with hw | ⟨hw, hw'⟩
    · exact loadGlobal_global (by rw [eo.globals]; exact n1.keeps J6.hi.base) hw hcont
    · exact loadGlobal_builtin (by rw [eo.globals]; exact n1.keeps J6.hi.base) hw (by rw [eo.builtins]; exact n2.keeps J6.hi.base) hw' hcont
end
theorem funFrames_of {base h : Heap} : ∀ {l : List Env} {Fs : List Addr}, l.map (·.frame) = Fs.map some → (∀ e ∈ l, e.scope.kind ≠ .module) → (∀ L ∈ Fs, base.get? L = none ∧ ∃ o es ep, h.get? L = some o ∧ o.data = .dict es ep) → h.FunFrames base l
  | [], _, _, _, _ => trivial
  | env :: l, [], e, _, _ => by cases e
  | env :: l, L :: Fs, e, hk, hf => by
    simp only [List.map_cons, List.cons.injEq] at e
    refine opq fun Gq hGq => ?_
    obtain ⟨q1, o, es, ep, q2, q3⟩ := hf L (by simp)
    refine hGq ?_
    exact ⟨hk env (by simp), ⟨L, o, e.1, q1, q2, fun vs z => by rw [q3] at z; (first | exact nsF z | exact snF z | cases z)⟩, funFrames_of e.2 (fun e he => hk e (by simp [he])) fun L hL => hf L (by simp [hL])⟩
/-- a function whose first statement calls `next` of bytes that are at their end -/
theorem raise_fn {g : G} {n : Nat} {a : Addr} {o : Obj} {fd : FuncData} {t : Expr} {x : Str} {xp pos pos' : Pos} {args : List Expr} {rest : List Stmt} {vs : List PV} {pb : Vars} {H : HF} {it : Addr} {b : List UInt8} {i : Nat}
    (ho : g.h₀.get? a = some o) (hd : o.data = .func fd) (hbody : fd.body = .stmts (.Assign [t] (.Call (.Name x xp) args [] pos) pos' :: rest)) (hok : fnOK fd.scope pb = true)
    (hclo : fd.closure = []) (hgl : fd.globals = mainGlobals) (hbl : fd.builtins = builtinsNs) (hcd : g.h₀.CodeRec fd.code fd.qualname) (hb : Binds g fd vs [] pb) (hsw : ∀ env, swapsWithSole [t] (.Call (.Name x xp) args [] pos) pos'.line env = pure false) (ha : args.all (fun e => !isStar e) = true)
    (hH : H it = some (.biter b i)) (hc : b[i]? = none)
    (h : EvE (fnCx g n fd.scope fd.code) (.Name x xp) pb H fun f H1 => EvL (fnCx g n fd.scope fd.code) pos args pb H1 fun vs H2 => Callee g f ∧ f = .builtin "next" ∧ vs = [.ref it] ∧ H2 = H) :
    RaiseC g (n + 1) (.ref a) vs H (fun H' => H' = H.del it) "StopIteration" := by
  intro A l Fs R s E Q fv vvs r hfr I d1 d2 hE
  cases d1
  have q := call_core (E := E) (K := Q) (kvs := []) ho hd hbody hok hclo hgl hbl hcd hb r I d2 (rfl : DenL s.heap [] []) fun env s' l' hl hef r' eo J kE hs hfr' => ?_
  · exact q
  rw [hfr] at hl; (first | exact nsF hl | exact snF hl | cases hl)
  refine raise_assign (c := fnCx g n fd.scope fd.code) (hsw env) (raise_call (Z := fun f vs H2 => f = .builtin "next" ∧ vs = [.ref it] ∧ H2 = H) ha r' eo J h fun f vs H2 fv vvs s2 hz e1 e2 J2 es2 => ?_)
  refine opq fun Gq hGq => ?_
  obtain rfl := hz.1
  obtain rfl := hz.2.1
  obtain rfl := hz.2.2
  cases e1
  obtain ⟨_, _, xz⟩ := e2
  obtain rfl := xz.1
  obtain rfl := xz.2.1
  obtain rfl := xz.2.2
  refine hGq ?_
  refine next_raises r'.1 J2.hi hH hc fun h1 h' e oe vs' a0 hsb hex hen he hcls hdat hv1 hv0 => ?_
  refine opq fun Gq hGq => ?_
  obtain ⟨o', xz⟩ := hsb
  have hsb := xz.1
  obtain ⟨K1, tk⟩ := J2.hi.del hH hsb
  obtain ⟨_, _, _, l2, rf2, rl2, rk2⟩ := r'
  refine hGq ?_
  rw [hfr'] at rf2; (first | exact nsF rf2 | exact snF rf2 | cases rf2)
  have hD : ∀ L ∈ env.locals :: Fs, (erase (env.locals :: Fs) h1).get? L = none ∧ ∃ o es ep, h'.get? L = some o ∧ o.data = .dict es ep := fun L hL => by
    obtain ⟨p, q, o, es, ep, e, d⟩ := K1.frs L hL
    exact ⟨by rw [erase_get, if_pos hL], o, es, ep, hex _ _ e, d⟩
  have hst : (erase (env.locals :: Fs) h1).StaysIn h' := fun b o e => by
    rw [erase_get] at e
    split at e
    · cases e
    · exact hex _ _ e
  have hB : Bas g Fs R (H2.del it) (env.locals :: Fs) h1 := ⟨{ K1 with frs := fun L hL => K1.frs L (List.mem_cons_of_mem _ hL) }, K1.frs⟩
  have hen' : (erase (env.locals :: Fs) h1).get? e = none := by
    rw [erase_get]; split
    · rfl
    · exact hen
  refine wpAny_leaving_firstW (base := erase (env.locals :: Fs) h1) (outer := l) (L := env.locals) hfr' (funFrames_of rl2 rk2 hD) hef he hst hen' hdat hv1 hv0 fun h2 hL => ?_
  refine opq fun Gq hGq => ?_
  obtain ⟨k1, ⟨_, _, k2⟩, k3, k4⟩ := hL
  refine hGq ?_
  rw [hcls] at k3
  exact hE _ _ ⟨e, a0, _, _, h1, rfl, rfl, hB, ⟨k1, hen', k2, k3⟩, (Heap.UpToSlots.of_keeps hex).trans k4, (hs.trans es2).trans Same.heap, fun b hb => List.mem_cons_of_mem _ hb⟩
end Mine
end
section
open PySem PySem.Calls PyProof.Rows
namespace Mine
theorem HI.delExt {g : G} {Fs : List Addr} {R : RF} {H : HF} {h h' : Heap} {a : Addr} {x : AO} (I : HI g Fs R H h) (ha : H a = some x) (hs : Heap.ExtBut a h h') : HI g Fs R (H.del a) h' := by
  refine opq fun Gq hGq => ?_
  obtain ⟨hB, hR, o0, ho0, hx0⟩ := I.mine a x ha
  refine hGq ?_
  have hk : TupKeep h h' := fun b o e q => hs b o (fun z => by
    subst z
    rw [ho0] at e; (first | exact nsF e | exact snF e | cases e)
    exact hx0.notTup q) e
  refine ⟨fun b o e => hs b o ?_ (I.base b o e), fun b o e => ?_, fun b z e => ?_, fun L hL => ?_⟩
  · rintro rfl; rw [hB] at e; (first | exact nsF e | exact snF e | obtain rfl := Option.some.inj e | cases e)
  · obtain ⟨o', e', q⟩ := I.rest b o e
    exact ⟨o', hs b _ (by rintro rfl; rw [hR] at e; (first | exact nsF e | exact snF e | obtain rfl := Option.some.inj e | cases e)) e', q⟩
  · by_cases hb : b = a
    · (first | (rw [hb, HF.del_self] at e; exact nsF e) | (rw [← hb, HF.del_self] at e; exact nsF e) | (rw [hb, HF.del_self] at e; exact snF e) | (rw [← hb, HF.del_self] at e; exact snF e) | (subst hb; rw [HF.del_self] at e; (first | exact nsF e | exact snF e | obtain rfl := Option.some.inj e | cases e)))
    · rw [HF.del_other hb] at e
      refine opq fun Gq hGq => ?_
      obtain ⟨p, q, o, h1, h2⟩ := I.mine b z e
      refine hGq ?_
      exact ⟨p, q, o, hs b o hb h1, h2.keeps hk⟩
  · refine opq fun Gq hGq => ?_
    obtain ⟨p, q, o, es, ep, e, d⟩ := I.frs L hL
    refine hGq ?_
    have hLa : L ≠ a := by rintro rfl; rw [q] at ha; (first | exact nsF ha | exact snF ha | obtain rfl := Option.some.inj ha | cases ha)
    exact ⟨p, by rw [HF.del_other hLa]; exact q, o, es, ep, hs L o hLa e, d⟩
theorem HF.Le.delK {K H : HF} {a : Addr} (h : K a = none) (k : K.Le H) : K.Le (H.del a) := fun b z e => by
  rw [HF.del_other (fun q => by (first | (rw [q, h] at e; exact nsF e) | (rw [← q, h] at e; exact nsF e) | (rw [q, h] at e; exact snF e) | (rw [← q, h] at e; exact snF e) | (subst q; rw [h] at e; (first | exact nsF e | exact snF e | obtain rfl := Option.some.inj e | cases e))))]; exact k b z e
theorem hname_min : (toString "min" ++ toString ".loop" : String) = "min.loop" := by decide
section
variable {g : G} {A : Around} {Fs : List Addr} {R : RF} {Rr : Result → Shared → Prop}
theorem lt_rich {a b : Int} {t u : Tok} {s : Shared} {E : Value → Shared → Prop} {Q : Value → Shared → Prop} (h : Q (.bool (decide (a < b))) s) : wpAny (model g.prog g.w) A (richCompare .Lt (.int a t) (.int b u)) Q E s :=
  CmpOf.ints_lt (P := fun i v => (i = 0 → v = .int a t) ∧ (i ≠ 0 → v = .int b u)) (fun i => if i = 0 then a else b) (fun i v ⟨h1, h2⟩ => by
    by_cases q : i = 0
    · rw [if_pos q]; exact ⟨t, h1 q⟩
    · rw [if_neg q]; exact ⟨u, h2 q⟩) 0 1 _ _ s Q E ⟨fun _ => rfl, fun q => absurd rfl q⟩ ⟨fun q => absurd q (by decide), fun _ => rfl⟩ h
/-- one item off a list's iterator -/
theorem liter_item {H : HF} {s : Shared} {E : Value → Shared → Prop} {I l : Addr} {i : Nat} {xs : List PV} {p : PV} (J : HI g Fs R H s.heap) (hI : H I = some (.liter l i)) (hl : H l = some (.list xs)) (hp : xs[i]? = some p) {K : Option Value → Shared → Prop}
    (h : ∀ v h', Den h' p v → HI g Fs R (H.set I (.liter l (i + 1))) h' → TupKeep s.heap h' → K (some v) { s with heap := h' }) : wpAny (model g.prog g.w) A (pyNext (.ref I)) K E s := by
  refine opq fun Gq hGq => ?_
  obtain ⟨_, _, o, ho, h1, h2⟩ := J.mine I _ hI
  obtain ⟨vs, k, q1, q2⟩ := mineL J hl
  obtain ⟨v, e1, d⟩ := q2.get hp
  refine hGq ?_
  refine wpAny_pyNext_list_item ⟨o, ho, h1, h2⟩ q1.isList (by simpa using e1) fun h' k1 k2 => ?_
  obtain ⟨o', z1, z2, z3⟩ := k1
  have tk := J.tupKeep hI k2
  exact h v h' (d.keeps tk) (J.upd hI k2 z1 ⟨z2, z3⟩) tk
theorem liter_end {H : HF} {s : Shared} {E : Value → Shared → Prop} {I l : Addr} {i : Nat} {xs : List PV} (hh : A.handled = none) (J : HI g Fs R H s.heap) (hI : H I = some (.liter l i)) (hl : H l = some (.list xs)) (hp : xs[i]? = none) {K : Option Value → Shared → Prop}
    (h : ∀ h', HI g Fs R (H.del I) h' → K none { s with heap := h' }) : wpAny (model g.prog g.w) A (pyNext (.ref I)) K E s := by
  refine opq fun Gq hGq => ?_
  obtain ⟨_, _, o, ho, h1, h2⟩ := J.mine I _ hI
  obtain ⟨vs, k, q1, q2⟩ := mineL J hl
  refine hGq ?_
  have e1 : vs[i]? = none := by
    have : xs.length ≤ i := by simpa using hp
    rw [Array.getElem?_eq_none]; rw [denSize q2]; exact this
  exact wpAny_pyNext_list_end hh ⟨o, ho, h1, h2⟩ q1.isList e1 fun h' k1 => h h' (J.delExt hI k1)
end
end Mine
end
section
open PySem PySem.Calls PyProof.Rows
namespace Mine
section
variable {c : Cx} {m : Vars} {H : HF}
theorem filterMap_take {α β : Type} {l : List α} {f : α → Option β} {i : Nat} {x : α} (h : l[i]? = some x) : (l.take (i + 1)).filterMap f = (l.take i).filterMap f ++ (f x).toList := by
  rw [List.take_add_one, h, List.filterMap_append]
  cases e : f x <;> simp [e]
/-- one generator, nothing kept but the list -/
theorem EvG_filterMap {elt : Expr} {scope : Scope} {pos : Pos} {target iter : Expr} {ifs : List Expr} {src : Src} {m0 : Vars} {H1 : HF} {Q : Vars → List PV → HF → Prop} (f : PV → Option PV) (hok : src.ok H1) (hlen : src.items.length ≤ 100000)
    (h : ∀ (i : Nat) (x : PV), src.items[i]? = some x → EvA c target x m0 H1 fun m1 H2 => Vars.Le m0 m1 ∧ EvIfs c ifs m1 H2 fun ok H3 => (ok = true → EvE c elt m1 H3 fun y H4 => H1.Le H4 ∧ f x = some y) ∧ (ok = false → H1.Le H3 ∧ f x = none))
    (hQ : Q m0 (src.items.filterMap f) H1) : EvG c (.ListComp elt [⟨target, iter, ifs, 0⟩] scope pos) 0 src m0 [] H1 Q := by
  refine EvG_mk (σ := List PV) (fun _ => m0) (fun _ => H1) (fun st => st) (fun i st => st = (src.items.take i).filterMap f) rfl (fun g hg => by cases hg) ⟨[], rfl, Vars.Le.refl _, HF.Le.refl _, rfl⟩ fun i st hS => ⟨hok.okL, fun x hx => ?_, fun hx => ?_⟩
  · have hlt : i < src.items.length := by
      rcases Nat.lt_or_ge i src.items.length with q | q
      · exact q
      · rw [List.getElem?_eq_none q] at hx; (first | exact nsF hx | exact snF hx | cases hx)
    have hl2 : st.length < 100000 := by
      rw [hS]
      have : ((src.items.take i).filterMap f).length ≤ i := Nat.le_trans (List.length_filterMap_le ..) (by rw [List.length_take]; with_reducible exact Nat.min_le_left _ _)
      with_reducible exact Nat.lt_of_le_of_lt (by assumption) (Nat.lt_of_lt_of_le (by assumption) (by assumption))
    refine fun A env Fs R s E w r eo I d => AK.bd (h i x hx A env Fs R s E w r eo I d) fun _ s1 m1 H2 q01 J2 e2 k2 => ⟨m1, H2, ?_, J2, e2, k2⟩
    obtain ⟨q0, q1⟩ := q01
    have key : ∀ ok H3, ((ok = true → EvE c elt m1 H3 fun y H4 => H1.Le H4 ∧ f x = some y) ∧ (ok = false → H1.Le H3 ∧ f x = none)) →
        ((ok = true → EvIn c (.ListComp elt [⟨target, iter, ifs, 0⟩] scope pos) elt [⟨target, iter, ifs, 0⟩] (0 + 1) m1 st H3 fun m4 acc4 H4 => ∃ st', st' = (src.items.take (i + 1)).filterMap f ∧ Vars.Le m0 m4 ∧ H1.Le H4 ∧ st' = acc4) ∧
        (ok = false → ∃ st', st' = (src.items.take (i + 1)).filterMap f ∧ Vars.Le m0 m1 ∧ H1.Le H3 ∧ st' = st)) := fun ok H3 hh => by
      refine ⟨fun ho => ?_, fun ho => ?_⟩
      · refine EvE.mono (hh.1 ho) fun y H4 ⟨a, b⟩ => ⟨hl2, _, rfl, q0, a, ?_⟩
        rw [filterMap_take hx, b, hS]; rfl
      · obtain ⟨a, b⟩ := hh.2 ho
        refine ⟨_, rfl, q0, a, ?_⟩
        rw [filterMap_take hx, b, hS]; simp
    unfold EvIfs at q1 ⊢
    split at q1
    · exact key _ _ q1
    · exact EvT.mono q1 fun ok H3 hh => key _ _ hh
    · exact q1
  · have : src.items.length ≤ i := by simpa using hx
    rw [hS, List.take_of_length_le this]
    exact hQ
theorem EvE_Comp1 {elt : Expr} {scope : Scope} {pos : Pos} {target iter : Expr} {ifs : List Expr} {Q : PV → HF → Prop} (m0 : Vars) (f : PV → Option PV) (hok : compOK scope c.sc = true) (hns : notSet iter = true) (hm : compVars scope m = m0)
    (h : EvE c iter m H fun v H1 => ∃ src : Src, src.val = v ∧ src.ok H1 ∧ src.items.length ≤ 100000 ∧ (∀ (i : Nat) (x : PV), src.items[i]? = some x → EvA (compCx c scope) target x m0 H1 fun m1 H2 => Vars.Le m0 m1 ∧ EvIfs (compCx c scope) ifs m1 H2 fun ok H3 =>
      (ok = true → EvE (compCx c scope) elt m1 H3 fun y H4 => H1.Le H4 ∧ f x = some y) ∧ (ok = false → H1.Le H3 ∧ f x = none)) ∧ ∀ a, H1 a = none → Q (.ref a) (H1.set a (.list (src.items.filterMap f)))) :
    EvE c (.ListComp elt [⟨target, iter, ifs, 0⟩] scope pos) m H Q := by
  subst hm
  refine EvE_ListComp rfl hok hns (EvE.mono h fun v H1 hz => ?_)
  obtain ⟨src, h1, h2, h3, h4, h5⟩ := hz
  exact ⟨src, h1, h2, EvG_filterMap f h2 h3 h4 h5⟩
theorem EvE_CompM {elt : Expr} {gens : List Comprehension} {scope : Scope} {pos : Pos} {target iter : Expr} {ifs : List Expr} {rest : List Comprehension} {Q : PV → HF → Prop} (m0 : Vars) (hgens : gens = ⟨target, iter, ifs, 0⟩ :: rest) (hok : compOK scope c.sc = true) (hns : notSet iter = true) (hm : compVars scope m = m0)
    (h : EvE c iter m H fun v H1 => ∃ src : Src, src.val = v ∧ src.ok H1 ∧ EvG (compCx c scope) (.ListComp elt gens scope pos) 0 src m0 [] H1 (fun _ acc H2 => ∀ a, H2 a = none → Q (.ref a) (H2.set a (.list acc)))) :
    EvE c (.ListComp elt gens scope pos) m H Q := by
  subst hm; exact EvE_ListComp hgens hok hns h
theorem EvIfs_nil {Q : Bool → HF → Prop} (h : Q true H) : EvIfs c [] m H Q := h
theorem EvIfs_one {t : Expr} {Q : Bool → HF → Prop} (h : EvT c t m H Q) : EvIfs c [t] m H Q := h
theorem EvIn_gen {e elt : Expr} {gens : List Comprehension} {d : Nat} {acc : List PV} {K : Vars → List PV → HF → Prop} {t iter : Expr} {ifs : List Expr} {n : Nat} (hg : gens[d]? = some ⟨t, iter, ifs, n⟩) (hns : notSet iter = true)
    (h : EvE c iter m H fun v H3 => ∃ src : Src, src.val = v ∧ src.ok H3 ∧ EvG c e d src m acc H3 K) : EvIn c e elt gens d m acc H K := by
  unfold EvIn; rw [hg]; exact ⟨hns, h⟩
theorem EvIn_elt {e elt : Expr} {gens : List Comprehension} {d : Nat} {acc : List PV} {K : Vars → List PV → HF → Prop} (hg : gens[d]? = none) (h : EvE c elt m H fun y H3 => acc.length < 100000 ∧ K m (acc ++ [y]) H3) : EvIn c e elt gens d m acc H K := by
  unfold EvIn; rw [hg]; exact h
theorem vle_new {x : Str} {v : PV} {r : Vars} (h : r.lookup x = none) (k : Vars.Le r m) : Vars.Le r ((x, v) :: m) := fun y q e => by
  have := k y q e
  rw [List.lookup_cons]
  cases z : y == x with
  | true => rw [eq_of_beq z, h] at e; (first | exact nsF e | exact snF e | cases e)
  | false => exact this
end
end Mine
end
section
namespace Mine
/-! exclusive or: which is nearer, which lies in one branch -/
theorem tb_log {u : Nat} (h : u ≠ 0) : u.testBit u.log2 = true := Nat.testBit_log2 h
theorem lt_of_tb {u v : Nat} (i : Nat) (hu : u.testBit i = false) (hv : v.testBit i = true) (h : ∀ j, i < j → u.testBit j = v.testBit j) : u < v := by
  have e : u / 2 ^ (i + 1) = v / 2 ^ (i + 1) := Nat.eq_of_testBit_eq fun j => by
    rw [Nat.testBit_div_two_pow, Nat.testBit_div_two_pow]; exact h _ (by with_reducible exact lb1 _ _)
  rw [Nat.pow_succ, ← Nat.div_div_eq_div_mul, ← Nat.div_div_eq_div_mul] at e
  rw [Nat.testBit_eq_decide_div_mod_eq] at hu hv
  have hu := of_decide_eq_false hu
  have hv := of_decide_eq_true hv
  rcases Nat.lt_or_ge u v with q | q
  · exact q
  · have := Nat.div_le_div_right (c := 2 ^ i) q
    exact (tb0 e hu hv this).elim
theorem tb_above {u i : Nat} (h : u.log2 < i) : u.testBit i = false := by
  rcases Nat.eq_zero_or_pos u with q | q
  · rw [q]; exact Nat.zero_testBit i
  · have h1 := (Nat.log2_eq_iff (Nat.ne_of_gt q) (k := u.log2)).mp rfl
    exact Nat.testBit_lt_two_pow (Nat.lt_of_lt_of_le h1.2 (Nat.pow_le_pow_right (by decide) h))
theorem xor_ne {u v : Nat} (h : u ≠ v) : u ^^^ v ≠ 0 := fun e => h (by
  have : u ^^^ v ^^^ v = v := by rw [e, Nat.zero_xor]
  rwa [Nat.xor_assoc, Nat.xor_self, Nat.xor_zero] at this)
theorem lt_iff {u v : Nat} (h : u ≠ v) : u < v ↔ v.testBit (u ^^^ v).log2 = true := by
  have hx := tb_log (xor_ne h)
  have ha : ∀ j, (u ^^^ v).log2 < j → u.testBit j = v.testBit j := fun j hj => by
    have := tb_above hj
    rw [Nat.testBit_xor] at this
    revert this; cases u.testBit j <;> cases v.testBit j <;> decide
  rw [Nat.testBit_xor] at hx
  cases hv : v.testBit (u ^^^ v).log2 with
  | true =>
    have hu : u.testBit (u ^^^ v).log2 = false := by rw [hv] at hx; revert hx; cases u.testBit (u ^^^ v).log2 <;> decide
    exact ⟨fun _ => rfl, fun _ => lt_of_tb _ hu hv ha⟩
  | false =>
    have hu : u.testBit (u ^^^ v).log2 = true := by rw [hv] at hx; revert hx; cases u.testBit (u ^^^ v).log2 <;> decide
    have := lt_of_tb _ hv hu fun j hj => (ha j hj).symm
    exact ⟨fun q => absurd q (by with_reducible exact absurd (by assumption) (Nat.lt_asymm (by assumption))), fun q => by cases q⟩
theorem xor_cancel (x a t : Nat) : (x ^^^ t) ^^^ (a ^^^ t) = x ^^^ a := by
  rw [Nat.xor_comm a t, ← Nat.xor_assoc, Nat.xor_assoc x t t, Nat.xor_self, Nat.xor_zero]
theorem xor_inj {x a t : Nat} (h : x ^^^ t = a ^^^ t) : x = a := by
  have : x ^^^ t ^^^ t = a ^^^ t ^^^ t := by rw [h]
  rwa [Nat.xor_assoc, Nat.xor_self, Nat.xor_zero, Nat.xor_assoc, Nat.xor_self, Nat.xor_zero] at this
/-- x is nearer to t than a is: at the first place where they part a parts from t -/
theorem nearer_iff {x a t : Nat} (h : x ≠ a) : x ^^^ t < a ^^^ t ↔ (a ^^^ t).testBit (x ^^^ a).log2 = true := by
  rw [lt_iff fun e => h (xor_inj e), xor_cancel]
/-- in one branch, seen from own -/
noncomputable def br (own x y : Nat) : Bool := decide (x ^^^ y < min (x ^^^ own) (y ^^^ own))
theorem br_iff {own x y : Nat} (hx : x ≠ own) (hy : y ≠ own) : br own x y = true ↔ (x ^^^ own).log2 = (y ^^^ own).log2 := by
  unfold br
  rw [decide_eq_true_eq, Nat.lt_min]
  have hu := xor_ne hx
  have hv := xor_ne hy
  have e := xor_cancel x y own
  generalize hU : x ^^^ own = u at *
  generalize hV : y ^^^ own = v at *
  rw [← e]
  have c1 : u ^^^ v ^^^ u = v := by rw [Nat.xor_comm u v, Nat.xor_assoc, Nat.xor_self, Nat.xor_zero]
  have c2 : u ^^^ v ^^^ v = u := by rw [Nat.xor_assoc, Nat.xor_self, Nat.xor_zero]
  have n1 : u ^^^ v ≠ u := fun q => hv (by rw [← c1, q, Nat.xor_self])
  have n2 : u ^^^ v ≠ v := fun q => hu (by rw [← c2, q, Nat.xor_self])
  rw [lt_iff n1, lt_iff n2, c1, c2]
  constructor
  · rintro ⟨a, b⟩
    rcases Nat.lt_trichotomy u.log2 v.log2 with q | q | q
    · rw [tb_above q] at a; cases a
    · exact q
    · rw [tb_above q] at b; cases b
  · intro q
    exact ⟨by rw [← q]; exact tb_log hu, by rw [q]; exact tb_log hv⟩
end Mine
end
section
namespace Mine
/-! tables, the few nearest -/
theorem nodup_sub_len {α : Type} [DecidableEq α] : ∀ {l m : List α}, l.Nodup → (∀ x ∈ l, x ∈ m) → l.length ≤ m.length
  | [], m, _, _ => Nat.zero_le _
  | x :: l, m, nd, h => by
    rw [List.nodup_cons] at nd
    have hx := h x (by simp)
    have ih := nodup_sub_len (l := l) (m := m.erase x) nd.2 fun y hy => (List.mem_erase_of_ne (fun q => nd.1 (by rw [← q]; exact hy))).mpr (h y (by simp [hy]))
    rw [List.length_erase_of_mem hx] at ih
    have := List.length_pos_of_mem hx
    rw [List.length_cons]; with_reducible exact nq1 (by assumption) (by assumption)
noncomputable abbrev Asc (t : Nat) (l : List Nat) : Prop := l.Pairwise fun x y => x ^^^ t < y ^^^ t
theorem Asc.nodup {t : Nat} {l : List Nat} (h : Asc t l) : l.Nodup := h.imp fun q e => by obtain rfl := Eq.symm e; with_reducible exact absurd (by assumption) (Nat.lt_asymm (by assumption))
theorem Asc.eq {t : Nat} : ∀ {l m : List Nat}, Asc t l → Asc t m → (∀ x, x ∈ l ↔ x ∈ m) → l = m
  | [], [], _, _, _ => rfl
  | [], y :: m, _, _, h => absurd ((h y).mpr (by simp)) (by simp)
  | x :: l, [], _, _, h => absurd ((h x).mp (by simp)) (by simp)
  | x :: l, y :: m, hl, hm, h => by
    have hl := List.pairwise_cons.mp hl
    have hm := List.pairwise_cons.mp hm
    have e : x = y := by
      rcases List.mem_cons.mp ((h x).mp (by simp)) with q | q
      · exact q
      · rcases List.mem_cons.mp ((h y).mpr (by simp)) with r | r
        · exact r.symm
        · have := hm.1 x q; have := hl.1 y r; with_reducible exact absurd (by assumption) (Nat.lt_asymm (by assumption))
    subst e
    rw [Asc.eq hl.2 hm.2 fun z => ⟨fun q => ?_, fun q => ?_⟩]
    · rcases List.mem_cons.mp ((h z).mp (by simp [q])) with r | r
      · subst r; have := hl.1 z q; with_reducible exact absurd (by assumption) (Nat.lt_asymm (by assumption))
      · exact r
    · rcases List.mem_cons.mp ((h z).mpr (by simp [q])) with r | r
      · subst r; have := hm.1 z q; with_reducible exact absurd (by assumption) (Nat.lt_asymm (by assumption))
      · exact r
/-- the few nearest of l to t, the nearest first -/
structure Nsm (few t : Nat) (l R : List Nat) : Prop where
  asc : Asc t R
  sub : ∀ x ∈ R, x ∈ l
  len : R.length = min few l.length
  far : ∀ x ∈ l, x ∉ R → ∀ y ∈ R, y ^^^ t < x ^^^ t
theorem Nsm.uniq {few t : Nat} {l R S : List Nat} (h : Nsm few t l R) (k : Nsm few t l S) : R = S := by
  have key : ∀ {R S : List Nat}, Nsm few t l R → Nsm few t l S → ∀ x ∈ R, x ∈ S := by
    intro R S h k x hx
    rcases Decidable.em (x ∈ S) with q | q
    · exact q
    · exfalso
      rcases Decidable.em (∀ y ∈ S, y ∈ R) with r | r
      · have nd : (x :: S).Nodup := by rw [List.nodup_cons]; exact ⟨q, k.asc.nodup⟩
        have := nodup_sub_len nd fun y hy => by
          rcases List.mem_cons.mp hy with e | e
          · rw [e]; exact hx
          · exact r y e
        rw [List.length_cons, k.len, h.len] at this
        with_reducible exact nx0 (by assumption)
      · have ⟨y, hy⟩ := Classical.not_forall.mp r
        have hyS : y ∈ S := Classical.byContradiction fun z => hy fun w => absurd w z
        have hyR : y ∉ R := fun z => hy fun _ => z
        have a := k.far x (h.sub x hx) q y hyS
        have b := h.far y (k.sub y hyS) hyR x hx
        with_reducible exact absurd (by assumption) (Nat.lt_asymm (by assumption))
  exact Asc.eq h.asc k.asc fun x => ⟨key h k x, key k h x⟩
noncomputable def nearN (t : Nat) (l : List Nat) (f : Nat) : Nat := (l.filter fun u => decide (u ^^^ t < f)).length
theorem nearN_ge {t f : Nat} {l S : List Nat} (nd : S.Nodup) (h : ∀ x ∈ S, x ∈ l ∧ x ^^^ t < f) : S.length ≤ nearN t l f :=
  nodup_sub_len nd fun x hx => by rw [List.mem_filter]; exact ⟨(h x hx).1, decide_eq_true (h x hx).2⟩
theorem nearN_mono {t f f' : Nat} {l : List Nat} (nd : l.Nodup) (h : f ≤ f') : nearN t l f ≤ nearN t l f' :=
  nearN_ge (nd.filter _) fun x hx => by
    rw [List.mem_filter] at hx
    exact ⟨hx.1, Nat.lt_of_lt_of_le (of_decide_eq_true hx.2) h⟩
theorem asc_take {t : Nat} : ∀ {l : List Nat} {n : Nat} {x : Nat}, Asc t l → x ∈ l.take n → nearN t l (x ^^^ t) < n
  | [], n, x, _, h => by simp at h
  | y :: l, 0, x, _, h => by simp at h
  | y :: l, n + 1, x, ha, h => by
    have ha := List.pairwise_cons.mp ha
    rw [List.take_succ_cons] at h
    unfold nearN
    rcases List.mem_cons.mp h with e | e
    · subst e
      have : (x :: l).filter (fun u => decide (u ^^^ t < x ^^^ t)) = [] := by
        rw [List.filter_eq_nil_iff]
        intro u hu q
        have q := of_decide_eq_true q
        rcases List.mem_cons.mp hu with r | r
        · obtain rfl := Eq.symm r; with_reducible exact absurd (by assumption) (Nat.lt_asymm (by assumption))
        · have := ha.1 u r; with_reducible exact absurd (by assumption) (Nat.lt_asymm (by assumption))
      rw [this]; simp
    · have := asc_take ha.2 e
      unfold nearN at this
      rw [List.filter_cons]
      split <;> (try rw [List.length_cons]) <;> (first | with_reducible exact Nat.lt_succ_of_lt (by assumption) | with_reducible exact Nat.succ_lt_succ (by assumption))
theorem perm_near {t f : Nat} {l m : List Nat} (h : l.Perm m) : nearN t l f = nearN t m f := (h.filter _).length_eq
/-- a row put in order -/
theorem asc_ex (t : Nat) (l : List Nat) (nd : l.Nodup) : ∃ m, Asc t m ∧ m.Perm l := by
  refine ⟨l.mergeSort fun x y => decide (x ^^^ t ≤ y ^^^ t), ?_, List.mergeSort_perm _ _⟩
  have h1 := List.pairwise_mergeSort (le := fun x y => decide (x ^^^ t ≤ y ^^^ t)) (fun a b c x y => decide_eq_true (Nat.le_trans (of_decide_eq_true x) (of_decide_eq_true y)))
    (fun a b => by rcases Nat.le_total (a ^^^ t) (b ^^^ t) with q | q <;> simp [q]) l
  have h2 : (l.mergeSort fun x y => decide (x ^^^ t ≤ y ^^^ t)).Nodup := (List.mergeSort_perm l _).nodup_iff.mpr nd
  exact (h1.and h2).imp fun ⟨a, b⟩ => by
    have a := of_decide_eq_true a
    rcases Nat.lt_or_ge (_ ^^^ t) (_ ^^^ t) with q | q
    · exact q
    · exact absurd (xor_inj (Nat.le_antisymm a q)) b
theorem nsm_take {t few : Nat} {m l : List Nat} (ha : Asc t m) (hp : m.Perm l) : Nsm few t l (m.take few) where
  asc := ha.sublist (List.take_sublist _ _)
  sub := fun x hx => hp.mem_iff.mp (List.mem_of_mem_take hx)
  len := by rw [List.length_take, hp.length_eq]
  far := fun x hx hn y hy => by
    have hx := hp.mem_iff.mpr hx
    rw [← List.take_append_drop few m] at hx ha
    rcases List.mem_append.mp hx with q | q
    · exact absurd q hn
    · exact (List.pairwise_append.mp ha).2.2 y hy x q
noncomputable def tbl1 (own few : Nat) (tb : List Nat) (other : Nat) : List Nat := if other ≠ own ∧ (tb.filter fun one => br own one other).length < few then tb ++ [other] else tb
noncomputable def tblOf (own few : Nat) (row : List Nat) : List Nat := row.foldl (tbl1 own few) []
structure Tb (own few : Nat) (row tb : List Nat) : Prop where
  sub : ∀ x ∈ tb, x ∈ row ∧ x ≠ own
  nd : tb.Nodup
  full : ∀ y ∈ row, y ≠ own → y ∈ tb ∨ few ≤ (tb.filter fun one => br own one y).length
theorem tbl1_grow (own few : Nat) (tb : List Nat) (other : Nat) : tbl1 own few tb other = tb ∨ tbl1 own few tb other = tb ++ [other] := by
  unfold tbl1; split <;> simp
theorem tbl_ok {own few : Nat} : ∀ (r row tb : List Nat), Tb own few row tb → (row ++ r).Nodup → Tb own few (row ++ r) (r.foldl (tbl1 own few) tb)
  | [], row, tb, h, _ => by rw [List.append_nil]; exact h
  | x :: r, row, tb, h, nd => by
    have e : row ++ x :: r = (row ++ [x]) ++ r := by simp
    rw [e] at nd ⊢
    rw [List.foldl_cons]
    refine tbl_ok r (row ++ [x]) _ ?_ nd
    have nd1 := (List.nodup_append.mp nd).1
    have hx : x ∉ row := fun q => (List.nodup_append.mp nd1).2.2 x q x (by simp) rfl
    have hxt : x ∉ tb := fun q => hx (h.sub x q).1
    unfold tbl1
    split
    · rename_i c
      refine ⟨fun y hy => ?_, ?_, fun y hy hn => ?_⟩
      · rcases List.mem_append.mp hy with q | q
        · have := h.sub y q; exact ⟨by simp [this.1], this.2⟩
        · simp at q; obtain rfl := Eq.symm q; exact ⟨by simp, c.1⟩
      · rw [List.nodup_append]; exact ⟨h.nd, by simp, fun a ha b hb => by simp at hb; obtain rfl := Eq.symm hb; exact fun q => hxt (q ▸ ha)⟩
      · rcases List.mem_append.mp hy with q | q
        · rcases h.full y q hn with z | z
          · exact .inl (by simp [z])
          · right; rw [List.filter_append, List.length_append]; with_reducible exact Nat.le_add_right_of_le (by assumption)
        · exact .inl (by simp at q; simp [q])
    · rename_i c
      refine ⟨fun y hy => ?_, h.nd, fun y hy hn => ?_⟩
      · have := h.sub y hy; exact ⟨by simp [this.1], this.2⟩
      · rcases List.mem_append.mp hy with q | q
        · exact h.full y q hn
        · simp at q; subst q
          right
          rcases Nat.lt_or_ge (tb.filter fun one => br own one y).length few with z | z
          · exact absurd ⟨hn, z⟩ c
          · exact z
theorem tblOf_ok {own few : Nat} {row : List Nat} (nd : row.Nodup) : Tb own few row (tblOf own few row) := by
  exact tbl_ok (own := own) (few := few) row [] [] ⟨by simp, List.nodup_nil, by simp⟩ (by simpa using nd)
end Mine
end
section
open PySem PySem.W PyProof.Rows
namespace Mine
/-! the sort, with unlike keys -/
noncomputable def runK {α : Type} (lt : Nat → Nat → Bool) : KasT α → α
  | .ret a => a
  | .ask i j k => runK lt (k (lt i j))
theorem pr_bind {α β : Type} {lt : Nat → Nat → Bool} {g : α → KasT β} : ∀ (t : KasT α), runK lt (t.bind g) = runK lt (g (runK lt t))
  | .ret a => rfl
  | .ask i j k => pr_bind (k (lt i j))
section
variable {f : Nat → Int}
noncomputable def gp (f : Nat → Int) (p : Array Nat) (k : Nat) : Int := f (p.getD k 0)
noncomputable abbrev ltf (f : Nat → Int) (i j : Nat) : Bool := decide (f i < f j)
/-- unlike below n -/
noncomputable def Unl (f : Nat → Int) (n : Nat) (p : Array Nat) : Prop := ∀ i j, i < n → j < n → i ≠ j → gp f p i ≠ gp f p j
noncomputable def Up (f : Nat → Int) (p : Array Nat) (k : Nat) : Prop := ∀ i j, i < j → j < k → gp f p i < gp f p j
noncomputable def Dn (f : Nat → Int) (p : Array Nat) (k : Nat) : Prop := ∀ i j, i < j → j < k → gp f p j < gp f p i
theorem asc_pr {n : Nat} {p : Array Nat} (u : Unl f n p) : ∀ (c k : Nat), 1 ≤ k → k + c ≤ n → Up f p k →
    k ≤ runK (ltf f) (kas_asc p c k) ∧ runK (ltf f) (kas_asc p c k) ≤ k + c ∧ Up f p (runK (ltf f) (kas_asc p c k)) ∧ (runK (ltf f) (kas_asc p c k) < k + c → gp f p (runK (ltf f) (kas_asc p c k)) < gp f p (runK (ltf f) (kas_asc p c k) - 1))
  | 0, k, h1, h2, h => ⟨Nat.le_refl _, Nat.le_refl _, h, fun q => absurd q (Nat.lt_irrefl _)⟩
  | c + 1, k, h1, h2, h => by
    have e : runK (ltf f) (kas_asc p (c + 1) k) = runK (ltf f) (if decide (gp f p k < gp f p (k - 1)) = true then .ret k else kas_asc p c (k + 1)) := rfl
    rw [e]
    by_cases q : gp f p k < gp f p (k - 1)
    · rw [if_pos (decide_eq_true q)]
      exact ⟨Nat.le_refl _, by show k ≤ _; with_reducible exact Nat.le_add_right _ _, h, fun _ => q⟩
    · rw [if_neg (by rw [decide_eq_false q]; simp)]
      have hne := u k (k - 1) (by with_reducible exact ad5 (by assumption)) (by with_reducible exact ad7 (by assumption)) (by (intro _; with_reducible exact ad9 (by assumption) (by assumption)))
      have hlt : gp f p (k - 1) < gp f p k := by with_reducible exact ix1 (by assumption) (by assumption)
      have h' : Up f p (k + 1) := fun i j hij hj => by
        by_cases z : j = k
        · subst z
          by_cases w : i = j - 1
          · rw [w]; exact hlt
          · exact Int.lt_trans (h i (j - 1) (by with_reducible exact ns9 (by assumption) (by assumption)) (by with_reducible exact ns10 (by assumption) (by assumption))) hlt
        · exact h i j hij (by with_reducible exact Nat.lt_of_le_of_ne (Nat.le_of_lt_succ (by assumption)) (by assumption))
      obtain ⟨a, b, d, g⟩ := asc_pr u c (k + 1) (by with_reducible exact Nat.le_add_left _ _) (by with_reducible exact ad2 (by assumption)) h'
      exact ⟨by with_reducible exact Nat.le_of_succ_le (by assumption), by with_reducible exact ad3 (by assumption), d, fun z => g (by with_reducible exact ad4 (by assumption))⟩
theorem desc_pr {n : Nat} {p : Array Nat} (u : Unl f n p) : ∀ (c k : Nat), 1 ≤ k → k + c ≤ n → Dn f p k → ∃ m, runK (ltf f) (kas_desc c p k 0) = (p, m, 0) ∧ k ≤ m ∧ m ≤ k + c ∧ Dn f p m
  | 0, k, h1, h2, h => ⟨k, rfl, Nat.le_refl _, Nat.le_refl _, h⟩
  | c + 1, k, h1, h2, h => by
    have e : runK (ltf f) (kas_desc (c + 1) p k 0) = runK (ltf f) (if decide (gp f p k < gp f p (k - 1)) = true then (if 0 > 0 then kas_desc c (kas_rev p (k - (0 + 1)) k) (k + 1) 0 else kas_desc c p (k + 1) 0)
      else .ask (p.getD (k - 1) 0) (p.getD k 0) fun d => if d = true then .ret (p, k, 0) else kas_desc c p (k + 1) (0 + 1)) := rfl
    rw [e]
    by_cases q : gp f p k < gp f p (k - 1)
    · rw [if_pos (decide_eq_true q), if_neg (by decide)]
      have h' : Dn f p (k + 1) := fun i j hij hj => by
        by_cases z : j = k
        · subst z
          by_cases w : i = j - 1
          · rw [w]; exact q
          · exact Int.lt_trans q (h i (j - 1) (by with_reducible exact ns9 (by assumption) (by assumption)) (by with_reducible exact ns10 (by assumption) (by assumption)))
        · exact h i j hij (by with_reducible exact Nat.lt_of_le_of_ne (Nat.le_of_lt_succ (by assumption)) (by assumption))
      obtain ⟨m, a, b, d, g⟩ := desc_pr u c (k + 1) (by with_reducible exact Nat.le_add_left _ _) (by with_reducible exact ad2 (by assumption)) h'
      exact ⟨m, a, by with_reducible exact Nat.le_of_succ_le (by assumption), by with_reducible exact ad3 (by assumption), g⟩
    · rw [if_neg (by rw [decide_eq_false q]; simp)]
      have hne := u k (k - 1) (by with_reducible exact ad5 (by assumption)) (by with_reducible exact ad7 (by assumption)) (by (intro _; with_reducible exact ad9 (by assumption) (by assumption)))
      have hlt : gp f p (k - 1) < gp f p k := by with_reducible exact ix1 (by assumption) (by assumption)
      refine ⟨k, ?_, Nat.le_refl _, by with_reducible exact Nat.le_add_right _ _, h⟩
      show runK (ltf f) (if decide (gp f p (k - 1) < gp f p k) = true then .ret (p, k, 0) else kas_desc c p (k + 1) (0 + 1)) = _
      rw [if_pos (decide_eq_true hlt)]; rfl
theorem getD_of {p q : Array Nat} {i j : Nat} (h : p[i]? = q[j]?) : gp f p i = gp f q j := by
  unfold gp; rw [Array.getD_eq_getD_getElem?, Array.getD_eq_getD_getElem?, h]
theorem rev_gp {p : Array Nat} {m : Nat} (hm : m ≤ p.size) (k : Nat) : gp f (kas_rev p 0 m) k = if k < m then gp f p (m - 1 - k) else gp f p k := by
  have := getElem?_mirror_all (xs := p) (i := 0) (j := m) hm k
  by_cases q : k < m
  · rw [if_pos ⟨Nat.zero_le _, q⟩] at this
    rw [if_pos q]
    refine getD_of ?_
    unfold kas_rev
    rw [this]; congr 1; with_reducible exact ns11 _ _
  · rw [if_neg (by (intro _; with_reducible exact rv1 (by assumption) (by assumption)))] at this
    rw [if_neg q]
    exact getD_of this
theorem Unl.perm {n : Nat} {p q : Array Nat} (hq : q.Perm p) (hn : p.size = n) (u : Unl f n p) : Unl f n q := by
  have nd : (p.toList.map f).Nodup := by
    rw [List.Nodup, List.pairwise_iff_getElem]
    intro i j hi hj hij
    rw [List.length_map, Array.length_toList] at hi hj
    have := u i j (by with_reducible exact Nat.lt_of_lt_of_le (by assumption) (Nat.le_trans (Nat.le_of_lt (by assumption)) (Nat.le_of_eq (by assumption)))) (by with_reducible exact Nat.lt_of_lt_of_le (by assumption) (Nat.le_of_eq (by assumption))) (by with_reducible exact Nat.ne_of_lt (by assumption))
    unfold gp at this
    rw [Array.getD_eq_getD_getElem?, Array.getD_eq_getD_getElem?, Array.getElem?_eq_getElem hi, Array.getElem?_eq_getElem hj] at this
    simpa using this
  have nd2 : (q.toList.map f).Nodup := ((Array.perm_iff_toList_perm.mp hq).map f).nodup_iff.mpr nd
  have hs : q.size = n := by rw [← hn]; exact hq.size_eq
  have key : ∀ i j, i < j → j < n → gp f q i ≠ gp f q j := fun i j hij hj => by
    have h1 := List.pairwise_iff_getElem.mp nd2 i j (by simp; with_reducible exact Nat.lt_of_lt_of_le (by assumption) (Nat.le_trans (Nat.le_of_lt (by assumption)) (Nat.le_of_eq (Eq.symm (by assumption))))) (by simp; with_reducible exact Nat.lt_of_lt_of_le (by assumption) (Nat.le_of_eq (Eq.symm (by assumption)))) hij
    unfold gp
    rw [Array.getD_eq_getD_getElem?, Array.getD_eq_getD_getElem?, Array.getElem?_eq_getElem (by with_reducible exact Nat.lt_of_lt_of_le (by assumption) (Nat.le_trans (Nat.le_of_lt (by assumption)) (Nat.le_of_eq (Eq.symm (by assumption))))), Array.getElem?_eq_getElem (by with_reducible exact Nat.lt_of_lt_of_le (by assumption) (Nat.le_of_eq (Eq.symm (by assumption))))]
    simpa using h1
  intro i j hi hj hne
  rcases Nat.lt_or_gt_of_ne hne with z | z
  · exact key i j z hj
  · exact (key j i z hi).symm
theorem tail_pr {n m : Nat} {p : Array Nat} (hs : p.size = n) (u : Unl f n p) (h1 : 1 ≤ m) (h2 : m ≤ n) (h : Dn f p m) :
    ∃ k q, runK (ltf f) (kas_tail3 m n p) = (k, q) ∧ q.Perm p ∧ m ≤ k ∧ k ≤ n ∧ Up f q k := by
  have hp : (kas_rev p 0 m).Perm p := mirror_perm _ _ _ _
  have hup : Up f (kas_rev p 0 m) m := fun i j hij hj => by
    rw [rev_gp (by with_reducible exact Nat.le_trans (by assumption) (Nat.le_of_eq (Eq.symm (by assumption)))), rev_gp (by with_reducible exact Nat.le_trans (by assumption) (Nat.le_of_eq (Eq.symm (by assumption)))), if_pos (by with_reducible exact Nat.lt_of_lt_of_le (by assumption) (Nat.le_of_lt (by assumption))), if_pos hj]
    exact h _ _ (by with_reducible exact ns8 (by assumption) (by assumption)) (by with_reducible exact ns8b (by assumption) (by assumption))
  obtain ⟨a, b, c, _⟩ := asc_pr (u.perm hp hs) (n - m) m h1 (by with_reducible exact ns16 (by assumption)) hup
  refine ⟨_, kas_rev p 0 m, ?_, hp, a, by with_reducible exact cp8 (by assumption) (by assumption), c⟩
  show runK (ltf f) ((kas_asc (kas_rev p 0 m) (n - m) m).bind fun k => .ret (k, kas_rev p 0 m)) = _
  rw [pr_bind]; rfl
theorem count_pr {n : Nat} {p : Array Nat} (hs : p.size = n) (hn : 1 ≤ n) (u : Unl f n p) : ∃ k q, runK (ltf f) (kas_count n p) = (k, q) ∧ q.Perm p ∧ 1 ≤ k ∧ k ≤ n ∧ Up f q k := by
  obtain ⟨a, b, c, d⟩ := asc_pr u (n - 1) 1 (Nat.le_refl _) (by with_reducible exact ns16 (by assumption)) (fun i j h1 h2 => (sm1 h1 h2).elim)
  unfold kas_count
  rw [pr_bind]
  generalize runK (ltf f) (kas_asc p (n - 1) 1) = m at *
  by_cases q : m = n
  · subst q
    rw [if_pos (by simp)]
    exact ⟨m, p, rfl, Array.Perm.refl _, a, Nat.le_refl _, c⟩
  · rw [if_neg (by simpa using q)]
    by_cases q2 : m > 1
    · rw [if_pos q2]
      have := c 0 (m - 1) (by with_reducible exact ns15 (by assumption)) (by with_reducible exact ns14 (by assumption))
      refine ⟨m, p, ?_, Array.Perm.refl _, a, by with_reducible exact cp6 (by assumption) (by assumption), c⟩
      show runK (ltf f) (if decide (gp f p 0 < gp f p (m - 1)) = true then _ else _) = _
      rw [if_pos (decide_eq_true this)]; rfl
    · rw [if_neg q2]
      have e : m = 1 := by with_reducible exact cp5 (by assumption) (by assumption)
      subst e
      have d := d (by with_reducible exact cp7 (by assumption) (by assumption))
      unfold kas_descPart
      rw [pr_bind]
      obtain ⟨m2, e1, e2, e3, e4⟩ := desc_pr u (n - (1 + 1)) (1 + 1) (by decide) (by with_reducible exact cp2 (by assumption) (by assumption)) (fun i j h1 h2 => by
        have : i = 0 ∧ j = 1 := by with_reducible exact sm2 (by assumption) (by assumption)
        obtain ⟨rfl, rfl⟩ := this
        exact d)
      rw [e1]
      dsimp only
      rw [if_neg (by decide)]
      obtain ⟨k, q', g1, g2, g3, g4, g5⟩ := tail_pr hs u (by with_reducible exact Nat.le_of_succ_le (by assumption)) (by with_reducible exact cp3 (by assumption) (by assumption) (by assumption)) e4
      exact ⟨k, q', g1, g2, by with_reducible exact cp4 (by assumption) (by assumption), g4, g5⟩
end
end Mine
end
section
open PySem PySem.W PyProof.Rows
namespace Mine
section
variable {f : Nat → Int}
theorem place_pr {n k : Nat} {p : Array Nat} (u : Unl f n p) (hk : k < n) : ∀ (c l r : Nat), r - l ≤ c → l ≤ r → r ≤ k → Up f p k → (∀ i < l, gp f p i < gp f p k) → (∀ i, r ≤ i → i < k → gp f p k < gp f p i) →
    ∃ m, runK (ltf f) (kas_place p k c l r) = m ∧ m ≤ k ∧ (∀ i < m, gp f p i < gp f p k) ∧ (∀ i, m ≤ i → i < k → gp f p k < gp f p i)
  | 0, l, r, h1, h2, h3, hu, ha, hb => by
    have : l = r := by with_reducible exact md10 (by assumption) (by assumption)
    subst this
    exact ⟨l, rfl, h3, ha, hb⟩
  | c + 1, l, r, h1, h2, h3, hu, ha, hb => by
    unfold kas_place
    by_cases q : l ≥ r
    · rw [if_pos q]
      have : l = r := by with_reducible exact Nat.le_antisymm (by assumption) (by assumption)
      subst this
      exact ⟨l, rfl, h3, ha, hb⟩
    · rw [if_neg q]
      have e : runK (ltf f) (KasT.ask (p.getD k 0) (p.getD ((l + r) / 2) 0) fun c_1 => if c_1 = true then kas_place p k c l ((l + r) / 2) else kas_place p k c ((l + r) / 2 + 1) r)
        = runK (ltf f) (if decide (gp f p k < gp f p ((l + r) / 2)) = true then kas_place p k c l ((l + r) / 2) else kas_place p k c ((l + r) / 2 + 1) r) := rfl
      rw [e]
      by_cases z : gp f p k < gp f p ((l + r) / 2)
      · rw [if_pos (decide_eq_true z)]
        refine place_pr u hk c l ((l + r) / 2) (by with_reducible exact md8 (by assumption) (by assumption)) (by with_reducible exact md1 (by assumption)) (by with_reducible exact md5 (by assumption) (by assumption)) hu ha fun i h4 h5 => ?_
        by_cases w : i = (l + r) / 2
        · rw [w]; exact z
        · exact Int.lt_trans z (hu _ i (by with_reducible exact Nat.lt_of_le_of_ne (by assumption) (Ne.symm (by assumption))) h5)
      · rw [if_neg (by rw [decide_eq_false z]; simp)]
        have hne := u k ((l + r) / 2) hk (by with_reducible exact md6 (by assumption) (by assumption) (by assumption)) (by (intro _; with_reducible exact md7 (by assumption) (by assumption) (by assumption)))
        have hlt : gp f p ((l + r) / 2) < gp f p k := by with_reducible exact ix1 (by assumption) (by assumption)
        refine place_pr u hk c ((l + r) / 2 + 1) r (by with_reducible exact md9 (by assumption) (by assumption)) (by with_reducible exact md3 (by assumption)) h3 hu (fun i h4 => ?_) hb
        by_cases w : i = (l + r) / 2
        · rw [w]; exact hlt
        · exact Int.lt_trans (hu i _ (by with_reducible exact Nat.lt_of_le_of_ne (Nat.le_of_lt_succ (by assumption)) (by assumption)) (by with_reducible exact md4 (by assumption) (by assumption))) hlt
theorem bub_gp {p : Array Nat} {k d : Nat} (hk : k < p.size) (hd : d ≤ k) (i : Nat) : gp f (bubble p k d) i = if i = k - d then gp f p k else if k - d < i ∧ i ≤ k then gp f p (i - 1) else gp f p i := by
  have := getElem?_bubble hk d hd i
  split at this
  · rename_i q; rw [if_pos q]; exact getD_of this
  · rename_i q
    rw [if_neg q]
    split at this
    · rename_i z; rw [if_pos z]; exact getD_of this
    · rename_i z; rw [if_neg z]; exact getD_of this
theorem bin_pr {n : Nat} : ∀ (c k : Nat) (p : Array Nat), p.size = n → Unl f n p → k + c = n → Up f p k → ∃ q, runK (ltf f) (kas_bin c p k) = q ∧ q.Perm p ∧ Up f q n
  | 0, k, p, hs, u, h, hu => by
    have : k = n := h
    obtain rfl := Eq.symm this
    exact ⟨p, rfl, Array.Perm.refl _, hu⟩
  | c + 1, k, p, hs, u, h, hu => by
    obtain ⟨m, e, m1, m2, m3⟩ := place_pr u (show k < n by with_reducible exact ad6 (by assumption)) k 0 k (by with_reducible exact Nat.sub_le _ _) (by with_reducible exact Nat.zero_le _) (Nat.le_refl _) hu (fun i hi => absurd hi (Nat.not_lt_zero i)) (fun i h4 h5 => by with_reducible exact absurd (by assumption) (Nat.not_lt_of_le (by assumption)))
    unfold kas_bin
    rw [pr_bind, e]
    have hp := bubble_perm p k (k - m)
    have g := fun i => bub_gp (f := f) (p := p) (k := k) (d := k - m) (by with_reducible exact ad8 (by assumption) (by assumption)) (by with_reducible exact Nat.sub_le _ _) i
    have e2 : k - (k - m) = m := by with_reducible exact ns12 (by assumption)
    rw [e2] at g
    have hup : Up f (bubble p k (k - m)) (k + 1) := fun i j hij hj => by
      rw [g i, g j]
      by_cases z1 : i = m
      · rw [if_pos z1, if_neg (fun e => ns23 hij z1 e), if_pos ⟨z1 ▸ hij, Nat.le_of_lt_succ hj⟩]
        exact m3 _ (by with_reducible exact ns19 (by assumption) (by assumption)) (by with_reducible exact ns10 (by assumption) (by assumption))
      · rw [if_neg z1]
        by_cases z2 : j = m
        · rw [if_pos z2, if_neg (fun q => ns22 hij z2 q)]
          exact m2 i (by with_reducible exact Nat.lt_of_lt_of_le (by assumption) (Nat.le_of_eq (by assumption)))
        · rw [if_neg z2]
          by_cases z3 : m < i ∧ i ≤ k
          · rw [if_pos z3, if_pos ⟨Nat.lt_trans z3.1 hij, Nat.le_of_lt_succ hj⟩]; exact hu _ _ (by with_reducible exact ns13 (by assumption) (by assumption)) (by with_reducible exact ns10 (by assumption) (by assumption))
          · rw [if_neg z3]
            by_cases z4 : m < j ∧ j ≤ k
            · rw [if_pos z4]
              by_cases z5 : i = j - 1
              · exact (ns25 hij z1 z3 z4 z5).elim
              · exact hu _ _ (by with_reducible exact ns9 (by assumption) (by assumption)) (by with_reducible exact ns10 (by assumption) (by assumption))
            · rw [if_neg z4]; exact hu _ _ hij (by with_reducible exact ns24 (by assumption) (by assumption) (by assumption) (by assumption))
    obtain ⟨q, q1, q2, q3⟩ := bin_pr c (k + 1) _ (by rw [bubble_size]; exact hs) (u.perm hp hs) (by with_reducible exact ad1 (by assumption)) hup
    exact ⟨q, q1, q2.trans hp, q3⟩
theorem sort_pr {n : Nat} (hn : 1 ≤ n) (hf : ∀ i j, i < n → j < n → i ≠ j → f i ≠ f j) : ∃ q : Array Nat, runK (ltf f) (kas_sort n) = q ∧ q.toList.Perm (List.range n) ∧ q.toList.Pairwise fun i j => f i < f j := by
  have hs : (List.toArray (List.range n)).size = n := by simp
  have u : Unl f n (List.toArray (List.range n)) := fun i j hi hj hij => by
    have e : ∀ k, k < n → (List.toArray (List.range n)).getD k 0 = k := fun k hk => by
      rw [Array.getD_eq_getD_getElem?]; simp [hk]
    unfold gp
    rw [e i hi, e j hj]
    exact hf i j hi hj hij
  have fin : ∀ q : Array Nat, q.Perm (List.toArray (List.range n)) → Up f q n → q.toList.Perm (List.range n) ∧ q.toList.Pairwise fun i j => f i < f j := fun q hq hu => by
    have hsz : q.size = n := by rw [hq.size_eq]; exact hs
    refine ⟨by simpa using Array.perm_iff_toList_perm.mp hq, ?_⟩
    rw [List.pairwise_iff_getElem]
    intro i j hi hj hij
    rw [Array.length_toList] at hi hj
    have := hu i j hij (by with_reducible exact Nat.lt_of_lt_of_le (by assumption) (Nat.le_of_eq (by assumption)))
    unfold gp at this
    rw [Array.getD_eq_getD_getElem?, Array.getD_eq_getD_getElem?, Array.getElem?_eq_getElem hi, Array.getElem?_eq_getElem hj] at this
    simpa using this
  obtain ⟨k, p, e, hp, h1, h2, h3⟩ := count_pr hs hn u
  unfold kas_sort
  rw [pr_bind, e]
  dsimp only
  have hps : p.size = n := by rw [hp.size_eq]; exact hs
  by_cases q : k < n
  · rw [if_pos q, show max k 1 = k by with_reducible exact cp9 (by assumption)]
    obtain ⟨q', q1, q2, q3⟩ := bin_pr (n - k) k p hps (u.perm hp hs) (by with_reducible exact ns16b (by assumption)) h3
    exact ⟨q', q1, fin q' (q2.trans hp) q3⟩
  · rw [if_neg q]
    have : k = n := by with_reducible exact Nat.le_antisymm (by assumption) (Nat.le_of_not_lt (by assumption))
    obtain rfl := Eq.symm this
    exact ⟨p, rfl, fin p hp h3⟩
end
end Mine
end
section
open PySem PySem.Calls PyProof.Rows
namespace Mine
theorem half_sum {x y z : Nat} (i : x / 2 + y / 2 = z / 2) (m : x % 2 + y % 2 = z % 2) : x + y = z := by
  rw [← Nat.div_add_mod x 2, ← Nat.div_add_mod y 2, ← Nat.div_add_mod z 2, ← i, ← m, Nat.mul_add, Nat.add_add_add_comm]
theorem xor_and_or (a : Nat) : ∀ b : Nat, (a ^^^ b) + (a &&& b) = (a ||| b) := by
  induction a using Nat.strongRecOn with
  | _ a ih =>
    intro b
    rcases Nat.eq_zero_or_pos a with q | q
    · subst q; simp
    · have i := ih (a / 2) (Nat.div_lt_self q (by decide)) (b / 2)
      rw [← Nat.xor_div_two, ← Nat.and_div_two, ← Nat.or_div_two] at i
      refine half_sum i ?_
      have e1 := @Nat.xor_mod_two_pow a b 1
      have e2 := @Nat.and_mod_two_pow a b 1
      have e3 := @Nat.or_mod_two_pow a b 1
      rw [show (2 ^ 1 : Nat) = 2 from rfl] at e1 e2 e3
      rw [e1, e2, e3]
      rcases Nat.mod_two_eq_zero_or_one a with p | p <;> rcases Nat.mod_two_eq_zero_or_one b with r | r <;> rw [p, r] <;> rfl
theorem bxor_nat (a b : Nat) : Builtin.bitXor (a : Int) (b : Int) = ((a ^^^ b : Nat) : Int) := by
  unfold Builtin.bitXor
  rw [band_nat, bor_nat]
  have h := xor_and_or a b
  with_reducible exact bx1 (by assumption)
theorem bin_xorN {g : G} {n : Nat} {H : HF} {Q : PV → HF → Prop} {a b : Nat} (h : Q (.int (a ^^^ b : Nat)) H) : BinO g n .BitXor (.int a) (.int b) H Q := bin_xor (by rw [bxor_nat]; exact h)
structure Over (g g' : G) : Prop where
  glob : g'.glob = g.glob
  w : g'.w = g.w
  base : ∀ b o, g.h₀.get? b = some o → g'.h₀.get? b = some o
noncomputable def KeyOK (g : G) (fa : Addr) (t : Nat) : Prop := (∃ o fd, g.h₀.get? fa = some o ∧ o.data = .func fd) ∧ ∀ (n x : Nat) (H : HF) (Q : PV → HF → Prop), Q (.int ((x ^^^ t : Nat) : Int)) H → Calls g (n + 1) (.ref fa) [.int (x : Int)] [] H Q
theorem cf_one {one tgt : Str} {ca : Addr} {env : Env} {a b : Bool} {mr : List (Str × Const)} (h : env.cells.lookup tgt = some ca) : closureFor ⟨.function, [(one, .local), (tgt, .free)], a, b, mr⟩ env = pure [(tgt, ca)] := by
  have hc : cellOf env tgt = pure ca := by unfold cellOf; rw [h]
  unfold closureFor
  show (do let r ← forIn [(one, NameKind.local), (tgt, NameKind.free)] [] _; pure r) = _
  simp [hc, List.forIn_cons, List.forIn_nil]
theorem lam_key {g : G} {fa c' ca : Addr} {qual one tgt : Str} {pm ctv : Value} {t : Nat} {tk : Tok} {params : Arguments} {p1 p2 p3 : Pos} {mr : List (Str × Const)}
    (ho : g.h₀.get? fa = some (PySem.W.kla_obj "<lambda>" qual params (.BinOp (.Name one p1) .BitXor (.Name tgt p2) p3) ⟨.function, [(one, .local), (tgt, .free)], false, false, mr⟩ [(tgt, ca)] pm c' ctv))
    (hcd : g.h₀.CodeRec (.ref c') qual) (hca : g.h₀.IsCell ca (some (.int t tk)))
    (hpar : ∀ (fd : FuncData) (v : Value), fd.params = params → fd.defaults = .none → fd.kwdefaults = .none → bindArgs fd ⟨[v], []⟩ = pure [(one, v)]) (h1 : (one == ("__debug__" : Str) || one == ("__classdict__" : Str)) = false) (h2 : (tgt == ("__debug__" : Str) || tgt == ("__classdict__" : Str)) = false) (h3 : (one == tgt) = false) : KeyOK g fa t := by
  refine ⟨⟨_, _, ho, rfl⟩, fun n x H Q hQ fv vvs kvs => Op.mk fun A Fs R s E r I p => ?_⟩
  refine opq fun Gq hGq => ?_
  obtain ⟨rfl, ⟨v, _, rfl, ⟨xt, rfl⟩, rfl⟩, rfl⟩ := p
  obtain ⟨rh, rd, ru, l, rf, rl, rk⟩ := r
  refine hGq ?_
  refine wpAny_call (PySem.W.kla_callFunE (by show A.depth < 1000; with_reducible exact un5 (by assumption)) (I.base _ _ ho) rfl rfl rfl rfl (hcd.keeps I.base) ?_)
  refine wpAny_of_eq (show bindArgs _ ⟨[_], (List.map (fun x => x.fst) ([] : List (Str × PV))).zip []⟩ = _ from hpar _ _ rfl rfl rfl) ?_
  refine (wpAny_newFunctionEnv (fun y hy => ?_) (fun y hy => ?_) (fun h₁ hns hsb => ⟨(g.nolimit.keeps I.base).fresh _ hsb, ?_⟩) rfl)
  · simp only [List.mem_cons, List.not_mem_nil, or_false] at hy
    rcases hy with rfl | rfl <;> exact fun q => NameKind.noConfusion q
  · simp only [List.mem_cons, List.not_mem_nil, or_false] at hy
    subst hy
    show List.lookup one [(one, NameKind.local), (tgt, NameKind.free)] = _
    simp
  have kE : Ext s.heap h₁ := fun b o e => hsb.extBut b o (Nat.ne_of_lt (Heap.lt_size e)) (Heap.get?_push_of_some _ e)
  have big : ∀ d, s.heap.objs.size ≤ d → s.heap.get? d = none := fun d hd => by
    cases q : s.heap.get? d with
    | none => rfl
    | some z => exact absurd (Heap.lt_size q) (Nat.not_lt.mpr hd)
  generalize henv : newEnv ⟨.function, [(one, .local), (tgt, .free)], false, false, mr⟩ s.heap.objs.size mainGlobals [(tgt, ca)] (qual ++ ".<locals>.") (some fa) (.ref c') none builtinsNs = env
  have eloc : env.locals = s.heap.objs.size := by rw [← henv]; rfl
  have efr : env.frame = some env.locals := by rw [← henv]; rfl
  have ecl : env.cells = [(tgt, ca)] := by rw [← henv]; rfl
  have hb0 : ∀ d, s.heap.objs.size ≤ d → g.h₀.get? d = none ∧ H d = none ∧ R d = none := fun d hd => by
    have hn := big d hd
    refine ⟨?_, ?_, ?_⟩
    · cases q : g.h₀.get? d with
      | none => rfl
      | some z => rw [I.base d z q] at hn; (first | exact nsF hn | exact snF hn | cases hn)
    · cases q : H d with
      | none => rfl
      | some z => obtain ⟨_, _, o2, q2, _⟩ := I.mine d z q; rw [hn] at q2; (first | exact nsF q2 | exact snF q2 | obtain rfl := Option.some.inj q2 | cases q2)
    · cases q : R d with
      | none => rfl
      | some z => obtain ⟨o2, q2, _⟩ := I.rest d z q; rw [hn] at q2; (first | exact nsF q2 | exact snF q2 | obtain rfl := Option.some.inj q2 | cases q2)
  obtain ⟨b1, b2, b3⟩ := hb0 _ (Nat.le_refl _)
  have hlo : (⟨g, n, false, fun _ => false, ⟨.function, [(one, .local), (tgt, .free)], false, false, mr⟩, .ref c'⟩ : Cx).sc.names.lookup one = some .local := by
    show List.lookup one [(one, NameKind.local), (tgt, NameKind.free)] = _
    simp
  have hlt : (⟨g, n, false, fun _ => false, ⟨.function, [(one, .local), (tgt, .free)], false, false, mr⟩, .ref c'⟩ : Cx).sc.names.lookup tgt = some .free := by
    show List.lookup tgt [(one, NameKind.local), (tgt, NameKind.free)] = _
    have : (tgt == one) = false := by rw [Bool.eq_false_iff] at h3 ⊢; intro q; exact h3 (by rw [eq_of_beq q]; simp)
    rw [List.lookup_cons, this]; simp
  have hne : ∀ x, List.lookup x [(one, NameKind.local), (tgt, NameKind.free)] ≠ some .cell := fun x q => by
    have := lookup_mem' q
    simp at this
  have hfr : ∀ x, List.lookup x [(one, NameKind.local), (tgt, NameKind.free)] = some .free → x = tgt := fun x q => by
    have := lookup_mem' q
    simpa using this
  have J : Inv ⟨g, n, false, fun _ => false, ⟨.function, [(one, .local), (tgt, .free)], false, false, mr⟩, .ref c'⟩ env (env.locals :: Fs) R [(one, .int (x : Int)), (tgt, .int (t : Int))] H h₁ := {
    hi := { (I.ext kE) with
      frs := fun L hL' => by
        rcases List.mem_cons.mp hL' with rfl | hL'
        · refine opq fun Gq hGq => ?_
          obtain ⟨o2, es, ep, q1, q2, _⟩ := hns
          refine hGq ?_
          rw [eloc]
          exact ⟨b1, b2, o2, es, ep, q1, q2⟩
        · exact (I.ext kE).frs L hL' }
    locR := by rw [eloc]; exact b3
    locB := by rw [eloc]; exact b1
    locH := by rw [eloc]; exact b2
    locs := ⟨_, by rw [eloc]; exact hns, fun y p e hk => by
      have hy : y = one := by
        have := lookup_mem' (show List.lookup y [(one, NameKind.local), (tgt, NameKind.free)] = some .local from hk)
        simpa using this
      subst hy
      rw [lk_hit] at e
      (first | exact nsF e | exact snF e | obtain rfl := Option.some.inj e | cases e)
      exact ⟨.int x xt, by simp, xt, rfl⟩⟩
    cels := fun y hk => by
      have hy : y = tgt := by
        rcases hk with hk | hk
        · exact absurd hk (hne y)
        · exact hfr y hk
      subst hy
      refine ⟨ca, _, by rw [ecl]; simp, (hca.keeps I.base).keeps kE, fun p e => ?_⟩
      have : (y == one) = false := by rw [Bool.eq_false_iff] at h3 ⊢; intro q; exact h3 (by rw [eq_of_beq q]; simp)
      rw [lk_skip this lk_hit] at e
      (first | exact nsF e | exact snF e | obtain rfl := Option.some.inj e | cases e)
      exact ⟨_, rfl, tk, rfl⟩
    celH := fun y a e => by
      rw [ecl] at e
      have : a = ca := by
        have := lookup_mem' e
        simp at this; exact this.2
      subst this
      obtain ⟨o2, q1, q2⟩ := id hca
      refine ⟨?_, _, (hca.keeps I.base).keeps kE⟩
      cases q : H a with
      | none => rfl
      | some z => obtain ⟨q3, _⟩ := I.mine a z q; rw [q1] at q3; (first | exact nsF q3 | exact snF q3 | obtain rfl := Option.some.inj q3 | cases q3)
    own := fun y hk _ => absurd hk (hne y) }
  have eo : EnvOK ⟨g, n, false, fun _ => false, ⟨.function, [(one, .local), (tgt, .free)], false, false, mr⟩, .ref c'⟩ (A.deeper env) env := by
    refine ⟨by rw [← henv]; rfl, rfl, by rw [← henv]; rfl, by rw [← henv]; rfl, by rw [← henv]; rfl, (fun q => by cases q), fun q => by cases q⟩
  have r' : Room n (env.locals :: Fs) (A.deeper env) := by
    refine ⟨rh, ?_, ?_, env :: l, ?_, ?_, ?_⟩
    · show A.depth + 1 + n < 900; with_reducible exact un3 (by assumption)
    · show A.units + 3 + 20 * n < 9000; with_reducible exact un1 (by assumption)
    · show A.frames.map _ = _
      rw [rf]; rfl
    · rw [List.map_cons, List.map_cons, rl, efr]
    · intro e he'
      rcases List.mem_cons.mp he' with rfl | he'
      · rw [← henv]; show ScopeKind.function ≠ ScopeKind.module; decide
      · exact rk e he'
  have ev : EvE ⟨g, n, false, fun _ => false, ⟨.function, [(one, .local), (tgt, .free)], false, false, mr⟩, .ref c'⟩ (.BinOp (.Name one p1) .BitXor (.Name tgt p2) p3) [(one, .int (x : Int)), (tgt, .int (t : Int))] H Q := by
    have : (tgt == one) = false := by rw [Bool.eq_false_iff] at h3 ⊢; intro q; exact h3 (by rw [eq_of_beq q]; simp)
    refine EvE_BinOp (EvE_var (by unfold kindIn; rw [hlo]; rfl) lk_hit h1 (EvE_var (by unfold kindIn; rw [hlt]; rfl) (lk_skip this lk_hit) h2 (bin_xorN hQ)))
  refine PySem.W.kla_codeExpr (EvE.bd (s := { s with heap := h₁, toks := s.toks + [(one, Value.int x xt)].length }) ev r' eo J fun v s2 p H2 q2 d2 J2 e2 k2 => ?_)
  exact ⟨p, H2, q2, d2, { J2.hi with frs := fun L hL => J2.hi.frs L (List.mem_cons_of_mem _ hL) }, Same.mk.trans e2⟩
theorem HI.putObj {g : G} {Fs : List Addr} {R : RF} {H : HF} {h : Heap} {a : Addr} {o : Obj} (I : HI g Fs R H h) (hB : g.h₀.get? a = none) (hR : R a = none) (ho : h.get? a = some o) (hd : ∀ es ep, o.data ≠ .dict es ep) (ht : ¬ (o.cls = .type "tuple" ∧ ∃ vs n, o.data = .seq vs n)) : HI g Fs R (H.set a (.obj o)) h :=
  { I with
    mine := fun b x e => by
      by_cases hb : b = a
      · subst hb; rw [HF.set_self] at e; (first | exact nsF e | exact snF e | obtain rfl := Option.some.inj e | cases e); exact ⟨hB, hR, o, ho, rfl, ht⟩
      · rw [HF.set_other hb] at e; exact I.mine b x e
    frs := fun L hL => by
      refine opq fun Gq hGq => ?_
      obtain ⟨p, q, o2, es, ep, e, d⟩ := I.frs L hL
      refine hGq ?_
      have hb : L ≠ a := by rintro rfl; rw [ho] at e; (first | exact nsF e | exact snF e | obtain rfl := Option.some.inj e | cases e); exact hd _ _ d
      exact ⟨p, by rw [HF.set_other hb]; exact q, o2, es, ep, e, d⟩ }
/-- the code at a place within the table of a function's code -/
noncomputable def TabAt (H : HF) (P : Addr) (pos : Pos) (q : Str) (c' : Addr) (oc : Obj) : Prop := ∃ ps : Array Value, H P = some (.obj (PySem.W.tabObj ps)) ∧ TriplesOk ps.toList ∧ codeAmong pos ps.toList = some (.ref c') ∧ H c' = some (.obj oc) ∧ ∃ ws t, oc.data = .fields ws ∧ ws[1]? = some (.str q t)
noncomputable def TabOK (H : HF) (P : Addr) (pos : Pos) (q : Str) : Prop := (∃ ps : Array Value, H P = some (.obj (PySem.W.tabObj ps)) ∧ TriplesOk ps.toList ∧ codeAmong pos ps.toList = none) ∨ ∃ c' oc, TabAt H P pos q c' oc
section
variable {c : Cx} {m : Vars} {H : HF}
/-- the lambda is made: the table is known, the function lies apart -/
theorem mk_lam {q : Str} {params : Arguments} {body : Expr} {scope : Scope} {lpos : Pos} {cd P ca : Addr} {tgt : Str} {env : Env} {A : Around} {Fs : List Addr} {R : RF} {s : Shared} {E : Value → Shared → Prop} {K : Value → Shared → Prop}
    (hdef : defaultsOf params env = ([], [])) (eo : EnvOK c A env) (I : Inv c env Fs R m H s.heap) (htp : c.tp = true) (hcd : c.cd = .ref cd) (hC : PySem.W.CodeHd c.g.h₀ cd P) (hq : c.g.h₀.CodeRec (.ref cd) q)
    (hT : TabOK H P lpos (q ++ ".<locals>." ++ "<lambda>")) (hcl : closureFor scope env = pure [(tgt, ca)])
    (hK : ∀ s' H' fa c' oc pm ctv, Inv c env Fs R m H' s'.heap → Same s s' → TupKeep s.heap s'.heap → (∀ b z, b ≠ P → H b = some z → H' b = some z) → TabAt H' P lpos (q ++ ".<locals>." ++ "<lambda>") c' oc →
      s'.heap.get? fa = some (PySem.W.kla_obj "<lambda>" (q ++ ".<locals>." ++ "<lambda>") params body scope [(tgt, ca)] pm c' ctv) → H' fa = none → c.g.h₀.get? fa = none → (∀ o, s.heap.get? fa ≠ some o) → K (.ref fa) s') :
    wpAny (model c.g.prog c.g.w) A (eval (.Lambda params body scope lpos) env) K E s := by
  refine PySem.W.kla_eval hdef ?_
  obtain ⟨q', hq', hqual⟩ := eo.qual htp
  have hqq : q' = q := by
    rw [hcd] at hq'
    obtain ⟨_, o1, w1, t1, e1, g1, d1, v1⟩ := hq'
    obtain ⟨_, o2, w2, t2, e2, g2, d2, v2⟩ := hq
    (first | exact nsF e1 | exact snF e1 | obtain rfl := Option.some.inj e1 | cases e1); (first | exact nsF e2 | exact snF e2 | obtain rfl := Option.some.inj e2 | cases e2)
    rw [g1] at g2; (first | exact nsF g2 | exact snF g2 | cases g2)
    rw [d1] at d2; (first | exact nsF d2 | exact snF d2 | cases d2)
    rw [v1] at v2; (first | exact nsF v2 | exact snF v2 | cases v2); rfl
  subst hqq
  rw [hqual]
  refine opq fun Gq hGq => ?_
  obtain ⟨mg, bm, ob, n1, hbm, hne, hbo, hcls, hdict, hdata⟩ := c.g.bmod
  refine hGq ?_
  have nG := n1.keeps I.hi.base
  have hbG : bm ≠ mainGlobals := fun z => by
    obtain ⟨o, es, ep, e, hd, _⟩ := n1
    rw [z, e] at hbo; (first | exact nsF hbo | exact snF hbo | cases hbo); rw [hd] at hdata; (first | exact nsF hdata | exact snF hdata | obtain rfl := Option.some.inj hdata | cases hdata)
  have hgP : ∀ {x}, H P = some x → mainGlobals ≠ P := fun hP z => by
    obtain ⟨o, es, ep, e, hd, _⟩ := n1
    obtain ⟨z1, _⟩ := I.hi.mine P _ hP
    rw [← z, e] at z1; (first | exact nsF z1 | exact snF z1 | cases z1)
  have hbP : ∀ {x}, H P = some x → bm ≠ P := fun hP z => by
    obtain ⟨z1, _⟩ := I.hi.mine P _ hP
    rw [← z, hbo] at z1; (first | exact nsF z1 | exact snF z1 | cases z1)
  have big : ∀ d, s.heap.objs.size ≤ d → s.heap.get? d = none := fun d hd => by
    cases q : s.heap.get? d with
    | none => rfl
    | some z => exact absurd (Heap.lt_size q) (Nat.not_lt.mpr hd)
  have hb0 : ∀ d, s.heap.objs.size ≤ d → c.g.h₀.get? d = none ∧ H d = none ∧ R d = none ∧ restR H s.heap d = none := fun d hd => by
    have hn := big d hd
    refine ⟨?_, ?_, ?_, ?_⟩
    · cases q : c.g.h₀.get? d with
      | none => rfl
      | some z => rw [I.hi.base d z q] at hn; (first | exact nsF hn | exact snF hn | cases hn)
    · cases q : H d with
      | none => rfl
      | some z => obtain ⟨_, _, o2, q2, _⟩ := I.hi.mine d z q; rw [hn] at q2; (first | exact nsF q2 | exact snF q2 | obtain rfl := Option.some.inj q2 | cases q2)
    · cases q : R d with
      | none => rfl
      | some z => obtain ⟨o2, q2, _⟩ := I.hi.rest d z q; rw [hn] at q2; (first | exact nsF q2 | exact snF q2 | obtain rfl := Option.some.inj q2 | cases q2)
    · unfold restR; split
      · exact hn
      · rfl
  rcases hT with ⟨ps, hP, ht, hnf⟩ | ⟨c', oc, ps, hP, ht, hf, hc', hoc⟩
  · refine opq fun Gq hGq => ?_
    obtain ⟨_, _, oP, hoP, rfl, _⟩ := I.hi.mine P _ hP
    refine hGq ?_
    refine PySem.W.kla_makeFunction (mg := mg) hcl eo.globals nG (by rw [eo.code, hcd]) (hC.keeps I.hi.base) hoP ht hnf (hgP hP) ⟨bm, ob, hbm, hne, hbG, hbP hP, I.hi.base _ _ hbo, hcls, hdict, hdata⟩ fun c' ctv h' tk hx hge hlt hrec htb => ?_
    refine opq fun Gq hGq => ?_
    obtain ⟨_, oc, ws, t, e2, hoc, hd, hv⟩ := hrec
    (first | exact nsF e2 | exact snF e2 | obtain rfl := Option.some.inj e2 | cases e2)
    have hPlt : P < s.heap.objs.size := Heap.lt_size hoP
    have hcP : c' ≠ P := Nat.ne_of_gt (Nat.lt_of_lt_of_le hPlt hge)
    have hsz : s.heap.objs.size ≤ h'.objs.size := Nat.le_trans hge (Nat.le_of_lt hlt)
    obtain ⟨cB, cH, cR, cRR⟩ := hb0 c' hge
    have J1 := I.hi.restR.delExt hP hx
    have J2 := J1.ext (Ext.push h' (PySem.W.kla_obj "<lambda>" (q' ++ ".<locals>." ++ "<lambda>") params body scope [(tgt, ca)] ((mg "__name__").getD .none) c' ctv))
    obtain ⟨pB, pR, _⟩ := I.hi.mine P _ hP
    refine hGq ?_
    have J3 := J2.putObj (a := P) pB (restR_none hP) (Heap.get?_push_of_some _ htb) (fun es ep z => by cases z) (fun z => by cases z.1)
    have J4 := J3.putObj (a := c') (o := oc) cB cRR (Heap.get?_push_of_some _ hoc) (fun es ep z => by rw [hd] at z; (first | exact nsF z | exact snF z | cases z)) (fun z => by obtain ⟨_, vs, n, z⟩ := z; rw [hd] at z; (first | exact nsF z | exact snF z | obtain rfl := Option.some.inj z | cases z))
    refine opq fun Gq hGq => ?_
    obtain ⟨I', tk'⟩ := I.back J4
    have hset : ∀ b z, b ≠ P → H b = some z → (((H.del P).set P (.obj (PySem.W.tabObj (ps ++ #[rawInt lpos.line, rawInt lpos.col, .ref c'])))).set c' (.obj oc)) b = some z := fun b z hb e => by
      rw [HF.set_other (fun w => by rw [w, cH] at e; (first | exact nsF e | exact snF e | cases e)), HF.set_other hb, HF.del_other hb]; exact e
    obtain ⟨fB, fH, fR, _⟩ := hb0 h'.objs.size hsz
    refine hGq ?_
    refine hK _ _ h'.objs.size c' oc ((mg "__name__").getD .none) ctv I' Same.mk tk' hset ⟨_, by rw [HF.set_other (Ne.symm hcP), HF.set_self], ?_, ?_, HF.set_self .., ws, t, hd, hv⟩ (Heap.get?_push_size _ rfl) ?_ fB (fun o e => by rw [big _ hsz] at e; (first | exact nsF e | exact snF e | cases e))
    · rw [Array.toList_append]; exact TriplesOk_snoc _ _ _ _ ht
    · rw [Array.toList_append]; exact codeAmong_snoc _ ht hnf
    · have f1 : h'.objs.size ≠ P := Nat.ne_of_gt (Nat.lt_of_lt_of_le hPlt hsz)
      rw [HF.set_other (Nat.ne_of_gt hlt), HF.set_other f1, HF.del_other f1]; exact fH
  · refine opq fun Gq hGq => ?_
    obtain ⟨_, _, oP, hoP, rfl, _⟩ := I.hi.mine P _ hP
    refine hGq ?_
    refine PySem.W.kla_makeFunctionHit (mg := mg) hcl eo.globals nG (by rw [eo.code, hcd]) (hC.keeps I.hi.base) hoP ht hf ⟨bm, ob, hbm, hne, hbG, hbP hP, I.hi.base _ _ hbo, hcls, hdict, hdata⟩ fun ctv h' tk hx hsz => ?_
    have kE : Ext s.heap (h'.push (PySem.W.kla_obj "<lambda>" (q' ++ ".<locals>." ++ "<lambda>") params body scope [(tgt, ca)] ((mg "__name__").getD .none) c' ctv)) := fun b o e => Heap.get?_push_of_some _ (hx b o e)
    obtain ⟨fB, fH, fR, _⟩ := hb0 h'.objs.size hsz
    exact hK { s with heap := _, toks := tk } H h'.objs.size c' oc ((mg "__name__").getD .none) ctv (I.ext kE) Same.mk kE.tup (fun _ _ _ e => e) ⟨ps, hP, ht, hf, hc', hoc⟩ (Heap.get?_push_size _ rfl) fH fB (fun o e => by rw [big _ hsz] at e; (first | exact nsF e | exact snF e | cases e))
/-- the ground with some more objects -/
noncomputable def moreG (g : G) (h : Heap) (l : List Addr) (hk : ∀ b o, g.h₀.get? b = some o → (PySem.W.hideAll h l).get? b = some o) : G :=
  { g with
    h₀ := PySem.W.hideAll h l
    nolimit := g.nolimit.keeps hk
    names := let ⟨mg, mb, n1, n2, hn⟩ := g.names; ⟨mg, mb, n1.keeps hk, n2.keeps hk, fun x p e => let ⟨v, d, r⟩ := hn x p e; ⟨v, d.keeps fun a o e _ => hk a o e, r⟩⟩
    bmod := let ⟨mg, bm, ob, n1, h1, h2, h3, r⟩ := g.bmod; ⟨mg, bm, ob, n1.keeps hk, h1, h2, hk _ _ h3, r⟩ }
theorem EvE_CallKey {x : Str} {xp pos kp : Pos} {args : List Expr} {params : Arguments} {lpos p1 p2 p3 : Pos} {one tgt : Str} {mr : List (Str × Const)} {Q : PV → HF → Prop} (q : Str) (cd P : Addr) (t : Nat) (ha : args.all (fun e => !isStar e) = true)
    (hdef : ∀ env, defaultsOf params env = ([], [])) (hpar : ∀ (fd : FuncData) (v : Value), fd.params = params → fd.defaults = .none → fd.kwdefaults = .none → bindArgs fd ⟨[v], []⟩ = pure [(one, v)])
    (h1 : (one == ("__debug__" : Str) || one == ("__classdict__" : Str)) = false) (h2 : (tgt == ("__debug__" : Str) || tgt == ("__classdict__" : Str)) = false) (h3 : (one == tgt) = false)
    (htp : c.tp = true) (hcd : c.cd = .ref cd) (hC : PySem.W.CodeHd c.g.h₀ cd P) (hq : c.g.h₀.CodeRec (.ref cd) q)
    (hk : kindIn c tgt = some .cell) (hv : m.lookup tgt = some (.int (t : Int)))
    (h : EvE c (.Name x xp) m H fun f H1 => EvL c pos args m H1 fun vs H2 => Callee c.g f ∧ TabOK H2 P lpos (q ++ ".<locals>." ++ "<lambda>") ∧
      ∀ g' fa H3 c' oc, Over c.g g' → KeyOK g' fa t → (∀ b z, b ≠ P → H2 b = some z → H3 b = some z) → TabAt H3 P lpos (q ++ ".<locals>." ++ "<lambda>") c' oc →
        Calls g' c.n f vs [(Str.ofString "key", .ref fa)] (H3.del c') (fun v H4 => H4 c' = none → Q v (H4.set c' (.obj oc)))) :
    EvE c (.Call (.Name x xp) args [⟨some (Str.ofString "key"), .Lambda params (.BinOp (.Name one p1) .BitXor (.Name tgt p2) p3) ⟨.function, [(one, .local), (tgt, .free)], false, false, mr⟩ lpos, kp⟩] pos) m H Q := by
  refine EvE.mk fun A env Fs R s E r eo I => wpAny_Call_Name_kw ?_
  refine EvE.bd h r eo I fun f s1 pf H1 q1 d1 I1 e1 k1 => ?_
  refine callWith_any (ps := []) ha rfl rfl ?_
  refine EvL.bd q1 r eo I1 fun vs s2 pvs H2 xq1 d2 I2 e2 k2 => ?_
  refine opq fun Gq hGq => ?_
  obtain ⟨hc, hT, q2⟩ := xq1
  obtain ⟨ca, v0, z1, z2, z3⟩ := I2.cels tgt (.inl hk)
  refine hGq ?_
  show wpAny _ A (do
    let v ← (do let v ← eval _ env; standAt pos; pure v : Sem Value)
    return v :: (← holding [v] (evalAll []))) _ E s2
  refine wpAny_bind (wpAny_bind ?_)
  refine mk_lam (hdef env) eo I2 htp hcd hC hq hT (cf_one z1) fun s3 H3 fa c' oc pm ctv I3 e3 k3 hle hTA hfa fH fB fN => ?_
  refine wpAny_bind (wpAny_standAt (wpAny_pure ?_))
  refine wpAny_bind (wpAny_holding (wpAny_pure (wpAny_pure ?_)))
  refine opq fun Gq hGq => ?_
  obtain ⟨ca', v1, y1, y2, y3⟩ := I3.cels tgt (.inl hk)
  refine hGq ?_
  rw [z1] at y1; (first | exact nsF y1 | exact snF y1 | cases y1)
  refine opq fun Gq hGq => ?_
  obtain ⟨w, rfl, ⟨tk, rfl⟩⟩ := y3 _ hv
  have caH := (I3.celH tgt ca z1).1
  obtain ⟨ps, t1, t2, t3, t4, ws, tt, t5, t6⟩ := id hTA
  obtain ⟨cB, cR, oc', hoc, eoc, cT⟩ := I3.hi.mine c' _ t4
  refine hGq ?_
  rw [eoc] at hoc
  have hfd : ∃ o fd, s3.heap.get? fa = some o ∧ o.data = .func fd := ⟨_, _, hfa, rfl⟩
  -- the greater ground
  have hmem : ∀ b, b ∈ (List.range s3.heap.objs.size).filter (fun b => (c.g.h₀.get? b).isNone && (b != fa && (b != c' && b != ca))) ↔ b < s3.heap.objs.size ∧ c.g.h₀.get? b = none ∧ b ≠ fa ∧ b ≠ c' ∧ b ≠ ca := fun b => by
    simp [List.mem_filter, List.mem_range]
  generalize hl : (List.range s3.heap.objs.size).filter (fun b => (c.g.h₀.get? b).isNone && (b != fa && (b != c' && b != ca))) = l at hmem
  have hbase : ∀ b o, c.g.h₀.get? b = some o → (PySem.W.hideAll s3.heap l).get? b = some o := fun b o e => PySem.W.hideAll_get _ (I3.hi.base _ _ e) fun w => by
    have := ((hmem b).mp w).2.1; rw [e] at this; (first | exact nsF this | exact snF this | obtain rfl := Option.some.inj this | cases this)
  have hin : ∀ b o, (b = fa ∨ b = c' ∨ b = ca) → s3.heap.get? b = some o → (PySem.W.hideAll s3.heap l).get? b = some o := fun b o hb e => PySem.W.hideAll_get _ e fun w => by
    have := ((hmem b).mp w).2.2
    rcases hb with rfl | rfl | rfl
    · exact this.1 rfl
    · exact this.2.1 rfl
    · exact this.2.2 rfl
  have hout : ∀ b o, s3.heap.get? b = some o → c.g.h₀.get? b = none → b ≠ fa → b ≠ c' → b ≠ ca → (PySem.W.hideAll s3.heap l).get? b = none := fun b o e a1 a2 a3 a4 => PySem.W.hideAll_none _ ((hmem b).mpr ⟨Heap.lt_size e, a1, a2, a3, a4⟩)
  have hO : Over c.g (moreG c.g s3.heap l hbase) := ⟨rfl, rfl, hbase⟩
  have hcell : (moreG c.g s3.heap l hbase).h₀.IsCell ca (some (.int (t : Int) tk)) := by
    obtain ⟨o, ho, hd⟩ := y2
    exact ⟨o, hin ca o (.inr (.inr rfl)) ho, hd⟩
  have hKey : KeyOK (moreG c.g s3.heap l hbase) fa t := lam_key (hin fa _ (.inl rfl) hfa) ⟨c', oc, ws, tt, rfl, hin c' _ (.inr (.inl rfl)) hoc, t5, t6⟩ hcell hpar h1 h2 h3
  have hcall := q2 _ fa H3 c' oc hO hKey hle hTA
  have J : HI (moreG c.g s3.heap l hbase) Fs (restR H3 s3.heap) (H3.del c') s3.heap := by
    have J0 := I3.hi.restR
    refine ⟨fun b o e => PySem.W.of_hideAll _ e, J0.rest, fun a y e => ?_, fun L hL => ?_⟩
    · have ha' : a ≠ c' := fun w => by (first | (rw [w, HF.del_self] at e; exact nsF e) | (rw [← w, HF.del_self] at e; exact nsF e) | (rw [w, HF.del_self] at e; exact snF e) | (rw [← w, HF.del_self] at e; exact snF e) | (subst w; rw [HF.del_self] at e; (first | exact nsF e | exact snF e | obtain rfl := Option.some.inj e | cases e)))
      rw [HF.del_other ha'] at e
      refine opq fun Gq hGq => ?_
      obtain ⟨b1, b2, o, b3, b4⟩ := J0.mine a y e
      refine hGq ?_
      exact ⟨hout a o b3 b1 (fun w => by rw [w, fH] at e; (first | exact nsF e | exact snF e | cases e)) ha' (fun w => by rw [w, caH] at e; (first | exact nsF e | exact snF e | cases e)), b2, o, b3, b4⟩
    · refine opq fun Gq hGq => ?_
      obtain ⟨b1, b2, o, es, ep, b3, b4⟩ := J0.frs L hL
      refine hGq ?_
      refine ⟨hout L o b3 b1 (fun w => ?_) (fun w => ?_) (fun w => ?_), ?_, o, es, ep, b3, b4⟩
      · rw [w, hfa] at b3; (first | exact nsF b3 | exact snF b3 | cases b3); (first | exact nsF b4 | exact snF b4 | obtain rfl := Option.some.inj b4 | cases b4)
      · rw [w, t4] at b2; (first | exact nsF b2 | exact snF b2 | cases b2)
      · subst w
        obtain ⟨o2, c1, c2⟩ := y2
        rw [b3] at c1; (first | exact nsF c1 | exact snF c1 | cases c1); rw [b4] at c2; (first | exact nsF c2 | exact snF c2 | obtain rfl := Option.some.inj c2 | cases c2)
      · have hLc : L ≠ c' := fun w => by rw [w, t4] at b2; (first | exact nsF b2 | exact snF b2 | cases b2)
        rw [HF.del_other hLc]; exact b2
  refine ⟨?_, ?_⟩
  · cases pf <;> first
      | exact hc.elim
      | (left; intro a q; subst q; (first | exact nsF d1 | exact snF d1 | obtain rfl := Option.some.inj d1 | cases d1); done)
      | (obtain ⟨o, fd, g1, g2⟩ := hc
         (first | exact nsF d1 | exact snF d1 | obtain rfl := Option.some.inj d1 | cases d1)
         exact .inr ⟨_, o, fd, rfl, I3.hi.base _ _ g1, g2⟩)
  · have hrun := hcall f vs [.ref fa]
    unfold Op at hrun
    refine wpAny_mono (hrun A Fs (restR H3 s3.heap) s3 E r J ⟨?_, d2.keeps k3, ⟨_, _, rfl, rfl, rfl⟩⟩) (fun a s4 xq => xq.casesOn fun pv H4 w1 w2 w3 w4 => ?_) fun _ _ x => x
    · exact (d1.keeps k2).keeps k3
    have hc4 : H4 c' = none := by
      cases z : H4 c' with
      | none => rfl
      | some y =>
        obtain ⟨z1, _⟩ := w3.mine c' y z
        rw [show (moreG c.g s3.heap l hbase).h₀.get? c' = some oc from hin c' _ (.inr (.inl rfl)) hoc] at z1; (first | exact nsF z1 | exact snF z1 | cases z1)
    have J4 : HI c.g Fs (restR H3 s3.heap) (H4.set c' (.obj oc)) s4.heap := by
      have J5 : HI c.g Fs (restR H3 s3.heap) H4 s4.heap := ⟨fun b o e => w3.base b o (hbase b o e), w3.rest, fun a y e => (by
        obtain ⟨b1, b2, r⟩ := w3.mine a y e
        refine ⟨?_, b2, r⟩
        cases z : c.g.h₀.get? a with
        | none => rfl
        | some o => rw [show (moreG c.g s3.heap l hbase).h₀.get? a = some o from hbase a o z] at b1; (first | exact nsF b1 | exact snF b1 | cases b1)), fun L hL => by
        obtain ⟨b1, r⟩ := w3.frs L hL
        refine ⟨?_, r⟩
        cases z : c.g.h₀.get? L with
        | none => rfl
        | some o => rw [show (moreG c.g s3.heap l hbase).h₀.get? L = some o from hbase L o z] at b1; (first | exact nsF b1 | exact snF b1 | cases b1)⟩
      exact J5.putObj cB (restR_none t4) (w3.base c' oc (hin c' _ (.inr (.inl rfl)) hoc)) (fun es ep z => by rw [t5] at z; (first | exact nsF z | exact snF z | cases z)) cT
    obtain ⟨I4, _⟩ := I3.back J4
    exact ⟨pv, _, w1 hc4, w2, I4, ((e1.trans e2).trans e3).trans w4⟩
end
end Mine
end
section
open PySem PySem.Calls PyProof.Rows
namespace Mine
section
variable {g : G} {A : Around} {Fs : List Addr} {R : RF} {Rr : Result → Shared → Prop}
theorem KeyOK.go {fa : Addr} {t : Nat} (K : KeyOK g fa t) {n x : Nat} {H : HF} {s : Shared} {E : Value → Shared → Prop} {v : Value} {C : Value → Shared → Prop} (r : Room (n + 1) Fs A) (I : HI g Fs R H s.heap) (d : Den s.heap (.int (x : Int)) v)
    (h : ∀ tk s', HI g Fs R H s'.heap → Same s s' → TupKeep s.heap s'.heap → C (.int ((x ^^^ t : Nat) : Int) tk) s') : wpAny (model g.prog g.w) A (call (.ref fa) [v]) C E s := by
  refine Op.bd (K.2 n x H (fun p H' => p = .int ((x ^^^ t : Nat) : Int) ∧ H' = H) ⟨rfl, rfl⟩ (.ref fa) [v] []) r I ⟨rfl, ⟨v, [], rfl, d, rfl⟩, rfl⟩ fun a s' b H' xq2 d1 J e k => ?_
  refine opq fun Gq hGq => ?_
  obtain ⟨q1, q2⟩ := xq2
  subst q1; subst q2
  obtain ⟨tk, rfl⟩ := d1
  refine hGq ?_
  exact h tk s' J e k
noncomputable def minK (t : Nat) (b x : Nat) : Nat := if x ^^^ t < b ^^^ t then x else b
theorem min_loopK {fa l I S : Addr} {t n : Nat} {ns : List Nat} {dv : Value} {Hb : HF} (K : KeyOK g fa t) (rr : Room (n + 2) Fs A) (hIl : I ≠ l) (hSI : S ≠ I) (hSl : S ≠ l) (bI : Hb I = none) (bS : Hb S = none) :
    ∀ (r i : Nat) (b : Nat) (H : HF) (s : Shared), ns.length - i = r → i ≤ ns.length → HI g Fs R H s.heap → Hb.Le H → H I = some (.liter l i) → H l = some (.list (ni ns)) → H S = some (.list [.int b, .int ((b ^^^ t : Nat) : Int)]) →
      (∀ s' tk, HI g Fs R Hb s'.heap → Same s s' → Rr (.ok (.ret (.int ((ns.drop i).foldl (minK t) b : Nat) tk))) s') →
      codeAny (model g.prog g.w) A (.builtin "min.loop" ⟨[.ref I, .ref fa, .ref S], [(Str.ofString "default", dv)]⟩) Rr s := by
  have hh := rr.1
  intro r
  induction r with
  | zero =>
    intro i b H s hr hi J hle hI hl hS hR
    have hin : i = ns.length := by with_reducible exact ns2c (by assumption) (by assumption)
    refine codeAny_builtin PySem.F.entry_min_loop ?_
    rw [Around.under_plainId PySem.F.plain_min_loop _]
    show wpAny _ A.in1 (seqItems? (.ref S) >>= _) _ _ s
    refine opq fun Gq hGq => ?_
    obtain ⟨_, _, oS, gS, vs, c, rfl, dS⟩ := J.mine S _ hS
    obtain ⟨v1, _, q1, ⟨t1, rfl⟩, v2, _, rfl, ⟨t2, rfl⟩, rfl⟩ := dS
    have hvs : vs = #[.int b t1, .int ((b ^^^ t : Nat) : Int) t2] := by apply Array.toList_inj.mp; rw [q1]
    subst hvs
    refine hGq ?_
    refine wpAny_bind (wpAny_seqItems gS rfl ?_)
    show wpAny _ A.in1 (tryCatch (pyNext (.ref I)) _ >>= _) _ _ s
    refine wpAny_bind (wpAny_tryCatch (liter_end (by exact hh) J hI hl (by rw [List.getElem?_eq_none]; rw [ni_length]; with_reducible exact Nat.le_of_eq (Eq.symm (by assumption))) fun h' J1 => ?_))
    have hS1 : H.del I S = some (.list [.int b, .int ((b ^^^ t : Nat) : Int)]) := by rw [HF.del_other hSI]; exact hS
    refine opq fun Gq hGq => ?_
    obtain ⟨_, _, oS, gS', vs, c', rfl, dS⟩ := J1.mine S _ hS1
    obtain ⟨v1, _, q1, ⟨u1, rfl⟩, v2, _, rfl, ⟨u2, rfl⟩, rfl⟩ := dS
    have hvs : vs = #[.int b u1, .int ((b ^^^ t : Nat) : Int) u2] := by apply Array.toList_inj.mp; rw [q1]
    subst hvs
    refine hGq ?_
    show wpAny _ A.in1 (updateSeq S (fun _ => #[]) >>= _) _ _ _
    refine wpAny_bind ?_
    refine wpAny_updateSeq gS' rfl (wpAny_bind (wpAny_letGo (wpAny_pure ?_)))
    have J2 := J1.upd (y := .list []) hS1 (Heap.SameBut.update ..) (Heap.get?_update_self (Obj.mapSeq fun _ => #[]) gS' rfl) ⟨#[], _, rfl, rfl⟩
    have hd : ns.drop i = [] := List.drop_of_length_le (by with_reducible exact Nat.le_of_eq (Eq.symm (by assumption)))
    rw [hd] at hR
    exact hR _ t1 (J2.less (HF.Le.newK bS (HF.Le.delK bI hle))) Same.heap
  | succ r ih =>
    intro i b H s hr hi J hle hI hl hS hR
    have hlt : i < ns.length := by with_reducible exact ns2b (by assumption)
    refine codeAny_builtin PySem.F.entry_min_loop ?_
    rw [Around.under_plainId PySem.F.plain_min_loop _]
    show wpAny _ A.in1 (seqItems? (.ref S) >>= _) _ _ s
    refine opq fun Gq hGq => ?_
    obtain ⟨_, _, oS, gS, vs, c, rfl, dS⟩ := J.mine S _ hS
    obtain ⟨v1, _, q1, ⟨t1, rfl⟩, v2, _, rfl, ⟨t2, rfl⟩, rfl⟩ := dS
    have hvs : vs = #[.int b t1, .int ((b ^^^ t : Nat) : Int) t2] := by apply Array.toList_inj.mp; rw [q1]
    subst hvs
    refine hGq ?_
    refine wpAny_bind (wpAny_seqItems gS rfl ?_)
    show wpAny _ A.in1 (tryCatch (pyNext (.ref I)) _ >>= _) _ _ s
    refine wpAny_bind (wpAny_tryCatch (liter_item J hI hl (p := .int (ns[i] : Nat)) (by simp [ni, hlt]) fun v h' d1 J1 tk1 => ?_))
    show wpAny _ A.in1 (tryCatch (holding [v] (call (.ref fa) [v])) _ >>= _) _ _ _
    refine wpAny_bind (wpAny_tryCatch (wpAny_holding (K.go (n := n) (s := { s with heap := h' }) rr.in1 J1 d1 fun tk s2 J2 e2 k2 => ?_)))
    have d1' := d1.keeps k2
    obtain ⟨t3, rfl⟩ := d1
    have hS1 : (H.set I (.liter l (i + 1))) S = some (.list [.int b, .int ((b ^^^ t : Nat) : Int)]) := by rw [HF.set_other hSI]; exact hS
    show wpAny _ A.in1 (tryCatch (holding [.int ns[i] t3, .int ((ns[i] ^^^ t : Nat) : Int) tk] (richCompare .Lt (.int ((ns[i] ^^^ t : Nat) : Int) tk) (.int ((b ^^^ t : Nat) : Int) t2) >>= _)) _ >>= _) _ _ _
    refine wpAny_bind (wpAny_tryCatch (wpAny_holding (wpAny_bind (lt_rich ?_))))
    refine wpAny_bind (wpAny_holding (wpAny_truthy_bool ?_))
    refine wpAny_bind (wpAny_letGo (wpAny_pure ?_))
    have hdrop : ns.drop i = ns[i] :: ns.drop (i + 1) := List.drop_eq_getElem_cons hlt
    rw [hdrop, List.foldl_cons] at hR
    have hle1 : Hb.Le (H.set I (.liter l (i + 1))) := HF.Le.newK bI hle
    have hl1 : (H.set I (.liter l (i + 1))) l = some (.list (ni ns)) := by rw [HF.set_other (Ne.symm hIl)]; exact hl
    have e0 : Same s s2 := Same.heap.trans e2
    cases hb : decide (((ns[i] ^^^ t : Nat) : Int) < ((b ^^^ t : Nat) : Int)) with
    | true =>
      simp only [if_true]
      refine opq fun Gq hGq => ?_
      obtain ⟨_, _, oS, gS', vs, c', rfl, dS⟩ := J2.mine S _ hS1
      obtain ⟨v1, _, q1, ⟨u1, rfl⟩, v2, _, rfl, ⟨u2, rfl⟩, rfl⟩ := dS
      have hvs : vs = #[.int b u1, .int ((b ^^^ t : Nat) : Int) u2] := by apply Array.toList_inj.mp; rw [q1]
      subst hvs
      refine hGq ?_
      refine wpAny_bind ?_
      refine wpAny_updateSeq gS' rfl (wpAny_bind (wpAny_letGo ?_))
      rw [hname_min]
      have J3 := J2.upd (y := .list [.int ns[i], .int ((ns[i] ^^^ t : Nat) : Int)]) hS1 (Heap.SameBut.update ..) (Heap.get?_update_self (Obj.mapSeq fun _ => #[.int ns[i] t3, .int ((ns[i] ^^^ t : Nat) : Int) tk]) gS' rfl) ⟨#[.int ns[i] t3, .int ((ns[i] ^^^ t : Nat) : Int) tk], _, rfl, _, _, rfl, ⟨t3, rfl⟩, _, _, rfl, ⟨tk, rfl⟩, rfl⟩
      have hm : minK t b ns[i] = ns[i] := if_pos (by have := of_decide_eq_true hb; with_reducible exact Int.ofNat_lt.mp (by assumption))
      rw [hm] at hR
      refine wpAny_pure ⟨plainId_quiet PySem.F.plain_min_loop _, ih (i + 1) ns[i] _ _ (by with_reducible exact ns2 (by assumption)) hlt J3 (HF.Le.newK bS hle1) (by rw [HF.set_other (Ne.symm hSI), HF.set_self]) (by rw [HF.set_other (Ne.symm hSl)]; exact hl1) (HF.set_self ..) fun s' t K1 e1 => ?_⟩
      exact hR s' t K1 (e0.trans (Same.heap.trans e1))
    | false =>
      simp only [Bool.false_eq_true, if_false]
      refine wpAny_bind (wpAny_letGo ?_)
      rw [hname_min]
      have hm : minK t b ns[i] = b := if_neg (by have := of_decide_eq_false hb; (intro _; with_reducible exact z8 (by assumption) (by assumption)))
      rw [hm] at hR
      refine wpAny_pure ⟨plainId_quiet PySem.F.plain_min_loop _, ih (i + 1) b _ _ (by with_reducible exact ns2 (by assumption)) hlt J2 hle1 (HF.set_self ..) hl1 hS1 fun s' t K1 e1 => ?_⟩
      exact hR s' t K1 (e0.trans e1)
theorem min_firstK {fa l I S d : Addr} {t n : Nat} {ns : List Nat} {Hb H : HF} {s : Shared} (K : KeyOK g fa t) (rr : Room (n + 2) Fs A) (hIl : I ≠ l) (hSI : S ≠ I) (hSl : S ≠ l) (bI : Hb I = none) (bS : Hb S = none)
    (J : HI g Fs R H s.heap) (hle : Hb.Le H) (hI : H I = some (.liter l 0)) (hl : H l = some (.list (ni ns))) (hS : H S = some (.list []))
    (hR : ∀ s' v, (match ns with | [] => v = .ref d | x :: r => ∃ t', v = .int (r.foldl (minK t) x : Nat) t') → HI g Fs R Hb s'.heap → Same s s' → Rr (.ok (.ret v)) s') :
    codeAny (model g.prog g.w) A (.builtin "min.loop" ⟨[.ref I, .ref fa, .ref S], [(Str.ofString "default", .ref d)]⟩) Rr s := by
  have hh := rr.1
  refine codeAny_builtin PySem.F.entry_min_loop ?_
  rw [Around.under_plainId PySem.F.plain_min_loop _]
  show wpAny _ A.in1 (seqItems? (.ref S) >>= _) _ _ s
  refine opq fun Gq hGq => ?_
  obtain ⟨_, _, oS, gS, vs, c, rfl, dS⟩ := J.mine S _ hS
  have hvs : vs = #[] := by apply Array.toList_inj.mp; exact dS
  subst hvs
  refine hGq ?_
  refine wpAny_bind (wpAny_seqItems gS rfl ?_)
  show wpAny _ A.in1 (tryCatch (pyNext (.ref I)) _ >>= _) _ _ s
  cases ns with
  | nil =>
    refine wpAny_bind (wpAny_tryCatch (liter_end (by exact hh) J hI hl rfl fun h' J1 => ?_))
    refine wpAny_bind (wpAny_rule (wpAny_pure ?_))
    exact hR _ _ rfl (J1.less (HF.Le.delK bI hle)) Same.heap
  | cons x r =>
    refine wpAny_bind (wpAny_tryCatch (liter_item J hI hl (p := .int (x : Nat)) rfl fun v h' d1 J1 tk1 => ?_))
    show wpAny _ A.in1 (tryCatch (holding [v] (call (.ref fa) [v])) _ >>= _) _ _ _
    refine wpAny_bind (wpAny_tryCatch (wpAny_holding (K.go (n := n) (s := { s with heap := h' }) rr.in1 J1 d1 fun tk s2 J2 e2 k2 => ?_)))
    refine opq fun Gq hGq => ?_
    obtain ⟨t3, rfl⟩ := d1
    have hS1 : (H.set I (.liter l (0 + 1))) S = some (.list []) := by rw [HF.set_other hSI]; exact hS
    obtain ⟨_, _, oS, gS', vs, c', rfl, dS⟩ := J2.mine S _ hS1
    have hvs : vs = #[] := by apply Array.toList_inj.mp; exact dS
    subst hvs
    refine hGq ?_
    show wpAny _ A.in1 (updateSeq S (fun _ => #[.int x t3, .int ((x ^^^ t : Nat) : Int) tk]) >>= _) _ _ _
    refine wpAny_bind ?_
    refine wpAny_updateSeq gS' rfl ?_
    rw [hname_min]
    have J3 := J2.upd (y := .list [.int x, .int ((x ^^^ t : Nat) : Int)]) hS1 (Heap.SameBut.update ..) (Heap.get?_update_self (Obj.mapSeq fun _ => #[.int x t3, .int ((x ^^^ t : Nat) : Int) tk]) gS' rfl) ⟨#[.int x t3, .int ((x ^^^ t : Nat) : Int) tk], _, rfl, _, _, rfl, ⟨t3, rfl⟩, _, _, rfl, ⟨tk, rfl⟩, rfl⟩
    refine wpAny_pure ⟨plainId_quiet PySem.F.plain_min_loop _, min_loopK (ns := x :: r) K rr hIl hSI hSl bI bS _ 1 x _ _ rfl (Nat.succ_le_succ (Nat.zero_le _)) J3 (HF.Le.newK bS (HF.Le.newK bI hle)) (by rw [HF.set_other (Ne.symm hSI), HF.set_self]) (by rw [HF.set_other (Ne.symm hSl), HF.set_other (Ne.symm hIl)]; exact hl) (HF.set_self ..) fun s' t K1 e1 => ?_⟩
    exact hR s' _ ⟨t, rfl⟩ K1 ((Same.heap.trans e2).trans (Same.heap.trans e1))
end
theorem args_min_dkv (a d v : Value) : argsOk "min" ⟨[a], [(Str.ofString "default", d), (Str.ofString "key", v)]⟩ := by unfold argsOk; kernel_rfl
noncomputable def minKD (d : PV) (t : Nat) : List Nat → PV
  | [] => d
  | x :: r => .int (r.foldl (minK t) x : Nat)
theorem calls_min_key {g : G} {n : Nat} {H : HF} {Q : PV → HF → Prop} {I l d fa : Addr} {t : Nat} {ns : List Nat} (K : KeyOK g fa t) (hI : H I = some (.liter l 0)) (hl : H l = some (.list (ni ns))) (hIl : I ≠ l)
    (h : Q (minKD (.ref d) t ns) (H.del I)) : Calls g (n + 2) (.builtin "min") [.ref I] [(Str.ofString "default", .ref d), (Str.ofString "key", .ref fa)] H Q := fun fv vvs kvs => Op.mk fun A Fs R s E r J p => by
  refine opq fun Gq hGq => ?_
  obtain ⟨rfl, ⟨_, _, rfl, rfl, rfl⟩, ⟨_, _, rfl, rfl, ⟨_, _, rfl, rfl, rfl⟩⟩⟩ := p
  refine hGq ?_
  refine kmb_tree PySem.F.kind_min PySem.F.plain_min PySem.F.entry_min (args_min_dkv _ _ _) ?_
  show wpAny _ A.in1 (Builtin.Builtins.bindParams "min" ["key", "default"] 0 ⟨[], [(Str.ofString "default", .ref d), (Str.ofString "key", .ref fa)]⟩ >>= _) _ _ s
  refine wpAny_bind (wpAny_of_eq (show Builtin.Builtins.bindParams "min" ["key", "default"] 0 ⟨[], [(Str.ofString "default", .ref d), (Str.ofString "key", .ref fa)]⟩ = pure [some (.ref fa), some (.ref d)] from rfl) ?_)
  refine wpAny_bind (wpAny_pure ?_)
  refine opq fun Gq hGq => ?_
  obtain ⟨_, _, o, ho, h1, h2⟩ := J.mine I _ hI
  refine hGq ?_
  refine wpAny_bind (iter_self (i := 0) (src := .list l (ni ns)) ho ⟨h1, h2⟩ _ _ ?_)
  refine wpAny_bind (wpAny_newList ?_ (Nat.zero_le _))
  rw [hname_min]
  have J1 := J.alloc (x := .list []) (o := { cls := .type "list", data := .seq #[] }) ⟨#[], _, rfl, rfl⟩ rfl
  have zS := J.sizeH
  have hIS : s.heap.objs.size ≠ I := fun q => by rw [q, hI] at zS; (first | exact nsF zS | exact snF zS | cases zS)
  have hlS : s.heap.objs.size ≠ l := fun q => by rw [q, hl] at zS; (first | exact nsF zS | exact snF zS | cases zS)
  refine wpAny_pure ⟨plainId_quiet PySem.F.plain_min_loop _, min_firstK (Hb := H.del I) (d := d) K r hIl hIS hlS (HF.del_self ..) (by rw [HF.del_other hIS]; exact zS) J1 (HF.Le.newK (by rw [HF.del_other hIS]; exact zS) (HF.del_le _ _)) (by rw [HF.set_other (Ne.symm hIS)]; exact hI) (by rw [HF.set_other (Ne.symm hlS)]; exact hl) (HF.set_self ..) fun s' v hv K e => ?_⟩
  refine ⟨_, _, h, ?_, K, Same.heap.trans e⟩
  cases ns with
  | nil => exact hv
  | cons x r => exact hv
end Mine
end
section
open PySem PySem.Calls PyProof.Rows
namespace Mine
section
variable {g : G} {A : Around} {Fs : List Addr} {R : RF} {s : Shared} {E : Value → Shared → Prop}
noncomputable def valN : Value → Nat
  | .int n _ => n.toNat
  | _ => 0
noncomputable def keyZ (t : Nat) (ns : List Nat) : List Int := ns.map fun x => ((x ^^^ t : Nat) : Int)
theorem key_zip {h : Heap} {t : Nat} : ∀ {ns : List Nat} {vs : List Value}, DenL h (ni ns) vs → ((keyZ t ns).zip vs).map (fun p => valN p.2) = ns ∧ ∀ p ∈ (keyZ t ns).zip vs, p.1 = ((valN p.2 ^^^ t : Nat) : Int) ∧ ∃ tk, p.2 = .int (valN p.2 : Nat) tk
  | [], vs, d => by rw [show vs = [] from d]; exact ⟨rfl, fun _ q => absurd q List.not_mem_nil⟩
  | n :: ns, vs, ⟨v, vs', e1, ⟨tk, e2⟩, e3⟩ => by
    obtain ⟨h1, h2⟩ := key_zip (t := t) e3
    obtain rfl := Eq.symm e1; obtain rfl := Eq.symm e2
    refine ⟨?_, fun p hp => ?_⟩
    · show valN (Value.int (n : Nat) tk) :: ((keyZ t ns).zip vs').map (fun p => valN p.2) = _
      rw [h1]; rfl
    · rcases List.mem_cons.mp hp with rfl | q
      · exact ⟨rfl, tk, rfl⟩
      · exact h2 p q
theorem ksk_asc {h : Heap} {t : Nat} {ns : List Nat} {vs out : List Value} (d : DenL h (ni ns) vs) (nd : ns.Nodup) (k : KskOut false (keyZ t ns) vs out) : ∃ ys : List Nat, ys.Perm ns ∧ Asc t ys ∧ DenL h (ni ys) out := by
  refine opq fun Gq hGq => ?_
  obtain ⟨ps, p1, p2, p3⟩ := k
  obtain ⟨k1, k2⟩ := key_zip (t := t) d
  refine hGq ?_
  have hk : ∀ p ∈ ps, p.1 = ((valN p.2 ^^^ t : Nat) : Int) ∧ ∃ tk, p.2 = .int (valN p.2 : Nat) tk := fun p hp => k2 p (p1.mem_iff.mp hp)
  have hp : (ps.map fun p => valN p.2).Perm ns := by rw [← k1]; exact p1.map _
  refine ⟨ps.map fun p => valN p.2, hp, ?_, ?_⟩
  · have nd' := hp.nodup_iff.mpr nd
    have p3' : ps.Pairwise fun p q => p.1 ≤ q.1 := p3.imp fun h => by simpa using h
    have := (List.pairwise_map.mp nd').and p3'
    refine List.pairwise_map.mpr ?_
    refine this.imp_of_mem fun {a b} ha hb h => ?_
    obtain ⟨h1, h2⟩ := h
    rw [(hk a ha).1, (hk b hb).1] at h2
    have h3 : valN a.2 ^^^ t ≠ valN b.2 ^^^ t := fun e => h1 (xor_inj e)
    with_reducible exact z11 (by assumption) (by assumption)
  · rw [p2]
    clear p3 p2 p1 hp
    induction ps with
    | nil => exact rfl
    | cons p r ih =>
      obtain ⟨tk, e⟩ := (hk p (by simp)).2
      exact ⟨p.2, _, rfl, ⟨tk, e⟩, ih fun q hq => hk q (by simp [hq])⟩
theorem HI.protect {H : HF} {h : Heap} {a : Addr} {o : Obj} (I : HI g Fs R H h) (ho : h.get? a = some o) (hR : R a = none) : HI g Fs (R.put a o) (H.del a) h :=
  { I with
    rest := fun b z e => by
      by_cases hb : b = a
      · obtain rfl := Eq.symm hb; rw [RF.put_self] at e; (first | exact nsF e | exact snF e | obtain rfl := Option.some.inj e | cases e); exact ⟨_, ho, .rfl'⟩
      · rw [RF.put_other hb] at e; exact I.rest b z e
    mine := fun b x e => by
      have hb : b ≠ a := fun q => by (first | (rw [q, HF.del_self] at e; exact nsF e) | (rw [← q, HF.del_self] at e; exact nsF e) | (rw [q, HF.del_self] at e; exact snF e) | (rw [← q, HF.del_self] at e; exact snF e) | (obtain rfl := Eq.symm q; rw [HF.del_self] at e; (first | exact nsF e | exact snF e | obtain rfl := Option.some.inj e | cases e)))
      rw [HF.del_other hb] at e
      obtain ⟨p, q, r⟩ := I.mine b x e
      exact ⟨p, by rw [RF.put_other hb]; exact q, r⟩
    frs := fun L hL => by
      obtain ⟨p, q, r⟩ := I.frs L hL
      refine ⟨p, ?_, r⟩
      by_cases hb : L = a
      · obtain rfl := Eq.symm hb; exact HF.del_self ..
      · rw [HF.del_other hb]; exact q }
theorem HI.unprotect {H : HF} {h : Heap} {a : Addr} {o : Obj} {x : AO} (I : HI g Fs (R.put a o) H h) (hR : R a = none) (hB : g.h₀.get? a = none) (hd : ∀ es ep, o.data ≠ .dict es ep) (hx : x.Is h o) : HI g Fs R (H.set a x) h ∧ h.get? a = some o ∧ H a = none := by
  obtain ⟨o', ho', k⟩ := I.rest a o (RF.put_self ..)
  rw [k.of_not hd] at ho'
  have hH : H a = none := by
    cases e : H a with
    | none => rfl
    | some y => obtain ⟨_, q, _⟩ := I.mine a y e; rw [RF.put_self] at q; (first | exact nsF q | exact snF q | obtain rfl := Option.some.inj q | cases q)
  refine ⟨{ I with
    rest := fun b z e => (by
      have hb : b ≠ a := fun w => by rw [w, hR] at e; (first | exact nsF e | exact snF e | cases e)
      exact I.rest b z (by rw [RF.put_other hb]; exact e))
    mine := fun b y e => (by
      by_cases hb : b = a
      · obtain rfl := Eq.symm hb; rw [HF.set_self] at e; (first | exact nsF e | exact snF e | obtain rfl := Option.some.inj e | cases e); exact ⟨hB, hR, o, ho', hx⟩
      · rw [HF.set_other hb] at e
        obtain ⟨p, q, r⟩ := I.mine b y e
        rw [RF.put_other hb] at q
        exact ⟨p, q, r⟩)
    frs := fun L hL => (by
      refine opq fun Gq hGq => ?_
      obtain ⟨p, q, o2, es, ep, e, d⟩ := I.frs L hL
      refine hGq ?_
      have hb : L ≠ a := fun w => by obtain rfl := Eq.symm w; rw [ho'] at e; (first | exact nsF e | exact snF e | obtain rfl := Option.some.inj e | cases e); exact hd _ _ d
      exact ⟨p, by rw [HF.set_other hb]; exact q, o2, es, ep, e, d⟩) }, ho', hH⟩
theorem ksk_core {P : PySem.Fin → Shared → Prop} {H : HF} {a fa : Addr} {t n : Nat} {ns : List Nat} (K : KeyOK g fa t) (rr : Room (n + 1) Fs A) (I : HI g Fs R H s.heap) (hH : H a = some (.list (ni ns))) (nd : ns.Nodup) (h64 : ns.length < 64)
    (h : ∀ (ys : List Nat) (s' : Shared), ys.Perm ns → Asc t ys → HI g Fs R (H.set a (.list (ni ys))) s'.heap → Same s s' → P (.done (.ret .none)) s') :
    wpAny (model g.prog g.w) A (ksk_tree a (.ref fa) false) P E s := by
  refine opq fun Gq hGq => ?_
  obtain ⟨vs, n0, ho, hd⟩ := mineL I hH
  have hsz : vs.toList.length = ns.length := by have := hd.length; rw [ni_length] at this; exact this
  have s1 := Heap.SameBut.update s.heap a (Obj.mapSeq fun _ => (#[] : Array Value))
  have ho' : s.heap.get? a = some (seqObj "list" vs n0) := ho
  obtain ⟨c1, ho1⟩ : ∃ c1, (s.heap.update a (Obj.mapSeq fun _ => (#[] : Array Value))).get? a = some (seqObj "list" #[] c1) := ⟨_, get?_update_seq ho' fun _ => #[]⟩
  refine hGq ?_
  have I1 : HI g Fs R (H.set a (.list [])) (s.heap.update a (Obj.mapSeq fun _ => (#[] : Array Value))) := I.upd hH s1 ho1 ⟨_, _, rfl, rfl⟩
  have d1 := hd.keeps (I.tupKeep hH s1)
  generalize hh1 : s.heap.update a (Obj.mapSeq fun _ => (#[] : Array Value)) = hp1 at *
  obtain ⟨hB, hR, _⟩ := I.mine a _ hH
  have I1' := I1.protect ho1 hR
  have I2 := I1'.ext (Ext.push hp1 (seqObj "tuple" vs 0))
  have d2 := d1.keeps (Ext.push hp1 (seqObj "tuple" vs 0)).tup
  have I3 := I2.alloc (x := .list []) (o := seqObj "list" #[] 0) ⟨_, _, rfl, rfl⟩ rfl
  have d3 := d2.keeps (Ext.push (hp1.push (seqObj "tuple" vs 0)) (seqObj "list" #[] 0)).tup
  have hkn := I2.sizeH
  have hLk := Heap.get?_push_size (hp1.push (seqObj "tuple" vs 0)) (o := seqObj "list" #[] 0) rfl
  unfold ksk_tree
  refine wpAny_bind (listItems_at ho' rfl ?_)
  refine wpAny_bind (listUpdate_at ho' rfl ?_ (by rw [← Array.length_toList, hsz, sizeLine_eq]; with_reducible exact Nat.le_trans (Nat.le_of_lt (by assumption)) (by decide)) (Nat.zero_le _))
  rw [hh1]
  refine wpAny_bind (seqEpoch_at ho1 rfl ?_)
  refine wpAny_bind (wpAny_newTuple ?_ (by rw [hsz, sizeLine_eq]; with_reducible exact Nat.le_trans (Nat.le_of_lt (by assumption)) (by decide)))
  refine wpAny_bind (wpAny_newList ?_ (Nat.zero_le _))
  refine wpAny_holding ?_
  show wpAny (model g.prog g.w) A (ksk_rest a (.ref fa) false vs c1 (.ref (hp1.push (seqObj "tuple" vs 0)).objs.size)) P E { s with heap := (hp1.push (seqObj "tuple" vs 0)).push (seqObj "list" #[] 0) }
  generalize hkS : (hp1.push (seqObj "tuple" vs 0)).objs.size = kS at *
  generalize hh3 : (hp1.push (seqObj "tuple" vs 0)).push (seqObj "list" #[] 0) = hp3 at *
  have hka : kS ≠ a := by rw [← hkS, Heap.size_push]; exact Nat.ne_of_gt (Nat.lt_succ_of_lt (Heap.lt_size ho1))
  unfold ksk_rest
  refine wpAny_bind (wpAny_rule ?_)
  have hvs : vs = vs.toList.toArray := by simp
  rw [hvs, List.forIn_toArray]
  refine wpAny_bind (ksk_fold (fun i s' => HI g Fs (R.put a (seqObj "list" #[] c1)) (((H.set a (.list [])).del a).set kS (.list (.map .int (keyZ t (ns.take i))))) s'.heap ∧ DenL s'.heap (ni ns) vs.toList ∧ Same s s') vs.toList 0 { s with heap := hp3 }
    ⟨I3, d3, Same.heap⟩ ?step ?done)
  case step =>
    rintro j x s' hx ⟨J, dJ, eJ⟩
    simp only [Nat.zero_add] at J ⊢
    have hj : j < ns.length := by have := (List.getElem?_eq_some_iff.mp hx).1; with_reducible exact Nat.lt_of_lt_of_le (by assumption) (Nat.le_of_eq (by assumption))
    obtain ⟨p, hp, dx⟩ := dJ.get' hx
    have hpx : p = .int (ns[j] : Nat) := by
      have : (ni ns)[j]? = some (.int (ns[j] : Nat)) := by simp [ni, hj]
      rw [this] at hp; (first | exact nsF hp | exact snF hp | cases hp); rfl
    obtain rfl := Eq.symm hpx
    refine wpAny_bind (wpAny_attempt (K.go (n := n) rr J dx fun tk s2 J2 e2 k2 => ?_))
    obtain ⟨ws, c, hw, dw⟩ := mineL J2 (HF.set_self ..)
    have hwl : ws.size ≤ ns.length := by
      have := dw.length
      rw [Array.length_toList] at this
      simp [keyZ] at this
      with_reducible exact mi4 (by assumption)
    have u1 := Heap.SameBut.update s2.heap kS (Obj.mapSeq (·.push (.int ((ns[j] ^^^ t : Nat) : Int) tk)))
    have hc2 := get?_update_seq (show s2.heap.get? kS = some (seqObj "list" ws c) from hw) (·.push (.int ((ns[j] ^^^ t : Nat) : Int) tk))
    refine wpAny_bind (listUpdate_at hw rfl ?_ (by rw [sizeLine_eq]; with_reducible exact Nat.le_of_lt (Nat.lt_of_le_of_lt (by assumption) (Nat.lt_of_lt_of_le (by assumption) (by decide)))) (Nat.le_trans (Nat.le_of_eq (Array.size_push ..)) (by rw [sizeLine_eq]; with_reducible exact tM (by assumption) (by assumption))))
    have tk2 := J2.tupKeep (HF.set_self ..) u1
    have ek : ns.take (j + 1) = ns.take j ++ [ns[j]] := by rw [List.take_add_one, List.getElem?_eq_getElem hj]; rfl
    refine wpAny_pure ⟨rfl, ?_, (dJ.keeps k2).keeps tk2, (eJ.trans e2).trans Same.heap⟩
    have J3 := J2.upd (HF.set_self ..) u1 hc2 (y := .list (.map .int (keyZ t (ns.take (j + 1))))) ⟨_, _, rfl, ?_⟩
    · rw [HF.set_set] at J3; exact J3
    · rw [ek]
      unfold keyZ
      rw [List.map_append, List.map_append, Array.toList_push]
      exact DenL.append dw ⟨_, _, rfl, ⟨tk, rfl⟩, rfl⟩
  case done =>
    rintro s' ⟨J, dJ, eJ⟩
    rw [Nat.zero_add, hsz, List.take_length] at J
    obtain ⟨ws, c, hw, dw⟩ := mineL J (HF.set_self ..)
    have hki : IntsAre ws.toList (keyZ t ns) := ints_are dw
    have hwl : ws.size = ns.length := by
      have := dw.length
      rw [Array.length_toList] at this
      simpa [keyZ] using this
    refine wpAny_bind (listItems_at hw rfl ?_)
    rw [← hvs]
    have hz : (ws.zip vs).size = ns.length := by rw [Array.size_zip, hwl, ← Array.length_toList, hsz, Nat.min_self]
    -- the tail
    have tail : ∀ st : SortSt, (arrOf st).Perm (ws.zip vs) → SortedTo (arrOf st) (arrOf st).size → failedOf st = none → wpAny (model g.prog g.w) A (ksk_tail a false c1 (.ref kS) st) P E s' := fun st hp hs hfl => by
      have hko := ksk_out (b := false) (vs := vs.toList) hki (by rw [← hvs]; exact hp) hs
      simp only [Bool.false_eq_true, if_false] at hko
      obtain ⟨ys, y1, y2, y3⟩ := ksk_asc dJ nd hko
      have u1 := Heap.SameBut.update s'.heap kS (Obj.mapSeq fun _ => (#[] : Array Value))
      have hc1 := get?_update_seq (show s'.heap.get? kS = some (seqObj "list" ws c) from hw) (fun _ => (#[] : Array Value))
      have J1 := J.upd (HF.set_self ..) u1 hc1 (y := .list []) ⟨_, _, rfl, rfl⟩
      have y4 := y3.keeps (J.tupKeep (HF.set_self ..) u1)
      obtain ⟨J2, ha2, hn2⟩ := J1.unprotect (x := .list []) hR hB (fun es ep z => by cases z) ⟨_, _, rfl, rfl⟩
      have u2 := Heap.SameBut.update (s'.heap.update kS (Obj.mapSeq fun _ => (#[] : Array Value))) a (Obj.mapSeq fun _ => (arrOf st).map (·.2))
      have hc2 := get?_update_seq ha2 (fun _ => (arrOf st).map (·.2))
      have J3 := J2.upd (HF.set_self ..) u2 hc2 (y := .list (ni ys)) ⟨_, _, rfl, y4⟩
      have hsz2 : ((arrOf st).map (·.2)).size = ns.length := by rw [Array.size_map, hp.size_eq, hz]
      unfold ksk_tail
      refine wpAny_bind (listUpdate_at hw rfl ?_ (by rw [hwl, sizeLine_eq]; with_reducible exact Nat.le_trans (Nat.le_of_lt (by assumption)) (by decide)) (Nat.zero_le _))
      refine wpAny_bind (wpAny_letGo ?_)
      refine wpAny_bind (seqEpoch_at ha2 rfl ?_)
      refine wpAny_bind (listUpdate_at ha2 rfl ?_ (Nat.zero_le _) (Nat.le_trans (Nat.le_of_eq hsz2) (by rw [sizeLine_eq]; with_reducible exact Nat.le_trans (Nat.le_of_lt (by assumption)) (by decide))))
      rw [hfl]
      simp only [bne_self_eq_false, Bool.false_eq_true, if_false]
      refine wpAny_pure (h ys _ y1 y2 ?_ (eJ.trans Same.heap))
      refine J3.less fun b z e => ?_
      by_cases hb : b = a
      · obtain rfl := Eq.symm hb; rw [HF.set_self] at e ⊢; exact e
      · rw [HF.set_other hb] at e
        have hbk : b ≠ kS := fun w => by
          obtain rfl := Eq.symm w
          obtain ⟨_, _, o9, q9, _⟩ := I.mine _ _ e
          have := Heap.lt_size q9
          rw [← hkS, Heap.size_push, ← hh1, Heap.size_update] at this
          exact Nat.lt_irrefl _ (Nat.lt_trans (Nat.lt_succ_self _) this)
        rw [HF.set_other hb, HF.set_other hb, HF.set_other hbk, HF.set_other hbk, HF.del_other hb, HF.set_other hb]; exact e
    unfold ksk_end
    simp only [Bool.false_eq_true, if_false]
    by_cases h2 : vs.size < 2
    · rw [if_pos h2, if_pos h2]
      refine wpAny_bind (wpAny_pure ?_)
      rw [StateT.run_pure]
      refine wpAny_bind (wpAny_pure ?_)
      refine tail (SortSt.mk' general' (ws.zip vs) #[] 7 none) (Array.Perm.refl _) ?_ rfl
      intro i j hij hj
      have hj2 : j < (ws.zip vs).size := hj
      have hv2 : vs.size = ns.length := by rw [← Array.length_toList, hsz]
      have : i = j := sk1 (by assumption) (by assumption) hv2 hij hj2
      obtain rfl := Eq.symm this
      exact Int.le_refl _
    · rw [if_neg h2, if_neg h2]
      have hv2 : vs.size = ns.length := by rw [← Array.length_toList, hsz]
      rw [ksk_kind hki (by rw [hwl]; with_reducible exact sk2 (by assumption) (by assumption))]
      refine wpAny_bind (wpAny_pure ?_)
      refine wpAny_bind (wpAny_mono (wpS_sortRuns (a₀ := ws.zip vs) (st := SortSt.mk' oneType' (ws.zip vs) #[] 7 none)
        (Q := fun _ st' => (arrOf st').Perm (ws.zip vs) ∧ failedOf st' = none ∧ SortedTo (arrOf st') (ws.zip vs).size)
        (by rw [hvs]; exact ksk_intKeys hki) ⟨Array.Perm.refl _, rfl, rfl, rfl⟩ (by rw [hz]; with_reducible exact sk2 (by assumption) (by assumption)) (by rw [hz]; exact h64) fun st' a1 a2 a3 => ⟨a1, a2, a3⟩) ?_ fun _ _ e => e)
      rintro ⟨⟨⟩, st'⟩ s3 ⟨rfl, hp, hf, hs⟩
      exact tail st' hp (by rw [hp.size_eq]; exact hs) hf
end
section
variable {g : G} {n : Nat} {H : HF} {Q : PV → HF → Prop}
theorem calls_sorted_key {l fa : Addr} {t : Nat} {ns : List Nat} (K : KeyOK g fa t) (hH : H l = some (.list (ni ns))) (nd : ns.Nodup) (h64 : ns.length < 64)
    (h : ∀ (ys : List Nat) (c : Addr), ys.Perm ns → Asc t ys → H c = none → Q (.ref c) (H.set c (.list (ni ys)))) : Calls g (n + 3) (.builtin "sorted") [.ref l] [(Str.ofString "key", .ref fa)] H Q := fun fv vvs kvs => Op.mk fun A Fs R s E r I d => by
  refine opq fun Gq hGq => ?_
  obtain ⟨rfl, ⟨_, _, rfl, rfl, rfl⟩, ⟨_, _, rfl, rfl, rfl⟩⟩ := d
  obtain ⟨vs, j, e1, e2⟩ := mineL I hH
  refine hGq ?_
  have hl : s.heap.IsList l vs.toList.toArray := by rw [show vs.toList.toArray = vs by simp]; exact e1.isList
  have hsz : vs.toList.length = ns.length := by have := e2.length; rw [ni_length] at this; exact this
  refine call_function_entry_kw kind_sorted plain_sorted entry_sorted (ksk_s1 _ _) ?_
  unfold Builtin.«sorted»
  refine wpAny_bind (m := checkCount "sorted" 1 1 _) (wpAny_pure ?_)
  refine wpAny_bind (collect_list hl ?_ (by rw [hsz, sizeLine_eq]; with_reducible exact Nat.le_trans (Nat.le_of_lt (by assumption)) (by decide)))
  refine wpAny_bind (wpAny_newList ?_ (by rw [hsz, sizeLine_eq]; with_reducible exact Nat.le_trans (Nat.le_of_lt (by assumption)) (by decide)))
  -- the heaps
  have I1 : HI g Fs R (H.set s.heap.objs.size (.list [])) (s.heap.push (seqObj "list" #[] 0)) := I.alloc (x := .list []) ⟨_, _, rfl, rfl⟩ rfl
  have d1 := e2.keeps (Ext.push s.heap (seqObj "list" #[] 0)).tup
  have hn := I.sizeH
  generalize ht : s.heap.objs.size = t0 at *
  have ho1 : (s.heap.push (seqObj "list" #[] 0)).get? t0 = some (seqObj "list" #[] 0) := by rw [← ht]; exact Heap.get?_push_size _ rfl
  have sb := Heap.SameBut.update (s.heap.push (seqObj "list" #[] 0)) t0 (Obj.mapSeq (· ++ vs.toList.toArray))
  have ho2 := get?_update_seq ho1 (· ++ vs.toList.toArray)
  have d2 := d1.keeps (I1.tupKeep (HF.set_self ..) sb)
  have I2 := I1.upd (HF.set_self ..) sb ho2 (y := .list (ni ns)) ⟨_, _, rfl, by simpa using d1⟩
  rw [HF.set_set] at I2
  generalize hh : (s.heap.push (seqObj "list" #[] 0)).update t0 (Obj.mapSeq (· ++ vs.toList.toArray)) = hp at *
  have I3 := I2.alloc (x := .list (ni ns)) (o := seqObj "list" vs.toList.toArray 0) ⟨_, _, rfl, by simpa using d2⟩ rfl
  have hoL : (hp.push (seqObj "list" vs.toList.toArray 0)).get? hp.objs.size = some (seqObj "list" vs.toList.toArray 0) := Heap.get?_push_size _ rfl
  have hn2 := I2.sizeH
  refine wpAny_bind (wpAny_holding (wpAny_call_entry_kw slot_list_sort ⟨_, hoL, rfl⟩ entry_list_sort ?_ (ksk_l1 _ _)))
  show wpAny (model g.prog g.w) A.in1.in1 (Builtin.«list.sort» ⟨[.ref hp.objs.size], [(Str.ofString "key", .ref fa)]⟩) _ _ _
  rw [ksk_t1]
  refine ksk_core (s := { s with heap := hp.push (seqObj "list" vs.toList.toArray 0) }) K r.in1.in1 I3 (HF.set_self ..) nd h64 fun ys s' p1 p2 I' e' => ⟨_, rfl, wpAny_pure ⟨_, rfl, .ref hp.objs.size, _, h ys _ p1 p2 (HF.set_none hn2).2, rfl, ?_, Same.heap.trans e'⟩⟩
  rw [HF.set_set] at I'
  exact I'.less (HF.Le.cong (HF.Le.newK hn (HF.Le.refl _)))
end
end Mine
end
section
open PySem PySem.Calls PyProof.Rows
namespace Mine
/-! zip of a range and a list's iterator, at the heap itself -/
noncomputable abbrev zo (TI TO : Addr) (f0 : Value) : Obj := { cls := .type "zip", dict := none, data := .fields #[f0, .bool false, .bool false, .ref TI, .ref TO], slots := #[] }
noncomputable abbrev ro (x left : Int) : Obj := { cls := .type "range_iterator", dict := none, data := .fields #[rawInt x, rawInt left, rawInt 1], slots := #[] }
noncomputable abbrev to2 (a b : Value) : Obj := { cls := .type "tuple", data := .seq #[a, b] }
noncomputable abbrev zH1 (h : Heap) (n : Int) : Heap := h.push (ro 0 n)
noncomputable abbrev zH2 (h : Heap) (n : Int) (it : Addr) : Heap := (zH1 h n).push (to2 (.ref h.objs.size) (.ref it))
noncomputable abbrev zH3 (h : Heap) (n : Int) (it : Addr) : Heap := (zH2 h n it).push (to2 .none .none)
noncomputable abbrev zH4 (h : Heap) (n : Int) (it : Addr) : Heap := (zH3 h n it).push (zo (h.objs.size + 1) (h.objs.size + 2) .none)
theorem meets_zip_new' (r it l : Addr) (n : Nat) (k : Nat) (t u v : Tok) (hn : n < 1000) :
    Meets (Builtin.«zip.__new__» ⟨[.type "zip", .ref r, .ref it], []⟩) (fun _ R s => IsRange s.heap r 0 n 1 t u v ∧ s.heap.IsListIter it l k ∧
      R (.ok (.ret (.ref (s.heap.objs.size + 3)))) { s with heap := zH4 s.heap n it }) :=
  .of_wp fun prog w A R s h => by
    refine opq fun Gq hGq => ?_
    obtain ⟨hp, g, d, tk, os⟩ := s; obtain ⟨hl1, hl2, h⟩ := h
    refine hGq ?_
    have hsub := sub_zip
    have hsm : Builtin.Range.small 0 n 1 = true := Builtin_small (by decide) (by decide) (by with_reducible exact br7 (by assumption)) (by with_reducible exact br8 (by assumption))
    have hrs : Builtin.Range.rangeSize 0 n 1 = (n : Int) := by rw [rangeSize_of]; simp
    have hL1 : IsRange (Shared.heap ⟨hp, g, d, tk, os⟩) r 0 n 1 t u v := hl1
    have hL2 : Heap.IsListIter (Shared.heap ⟨hp.push (ro 0 n), g, d, tk, os⟩) it l k := hl2.at fun o e => Heap.get?_push_of_some _ e
    have r1 : ∀ {A' : Around} {E : Value → Shared → Prop} {Q : Value → Shared → Prop}, Q (.ref hp.objs.size) ⟨hp.push (ro 0 n), g, d, tk, os⟩ → wpAny (model prog w) A' (pyIter (.ref r)) Q E ⟨hp, g, d, tk, os⟩ := fun {A' E Q} hQ =>
      wpAny_pyIter_range hL1 hsm (by rw [hrs]; exact hQ)
    have z1 : (zH1 hp n).objs.size = hp.objs.size + 1 := Heap.size_push ..
    have z2 : (zH2 hp n it).objs.size = hp.objs.size + 2 := by rw [Heap.size_push, z1]
    have z3 : (zH3 hp n it).objs.size = hp.objs.size + 3 := by rw [Heap.size_push, z2]
    wp_walk using r1, wpAny_pyIter_listiter hL2
    refine ⟨_, rfl, ?_⟩
    rw [← z3] at h
    have e : zH4 hp n it = (zH3 hp n it).push (zo (zH1 hp n).objs.size (zH2 hp n it).objs.size .none) := by rw [z1, z2]
    rw [e] at h
    exact h
section
variable {prog : Program} {w : World} {A : Around} {E : Value → Shared → Prop} {s : Shared}
theorem call_zip' {r it l : Addr} {n k : Nat} {t u v : Tok} {Q : Value → Shared → Prop} (hn : n < 1000) (hr : IsRange s.heap r 0 n 1 t u v) (hi : s.heap.IsListIter it l k)
    (h : Q (.ref (s.heap.objs.size + 3)) { s with heap := zH4 s.heap n it }) : wpAny (model prog w) A (call (.type "zip") [.ref r, .ref it]) Q E s := by
  have z3 : (zH3 s.heap n it).objs.size = s.heap.objs.size + 3 := by rw [Heap.size_push, Heap.size_push, Heap.size_push]
  refine callType_new F.called_zip (by decide) (F.typeCall_zip_2 _ _) (F.newCall_zip_2 _ _) (fun obj => F.args_object_init_3 obj _ _) F.entry_zip_new
    (meets_zip_new' r it l n k t u v hn) ⟨hr, hi, ?_⟩
  exact ⟨⟨_, by rw [← z3]; exact Heap.get?_push_size _ rfl, rfl⟩, h⟩
theorem nextOf_range_item {it : Addr} {x left : Int} {Q : Value → Shared → Prop} (hit : IsRangeIter s.heap it x left 1) (hleft : 0 < left)
    (hQ : ∀ h', IsRangeIter h' it (x + 1) (left - 1) 1 → Heap.SameBut it s.heap h' → Q (.int x s.toks) { s with heap := h', toks := s.toks + 1 }) :
    wpAny (model prog w) A (Builtin.SmallTypes.nextOf (.ref it)) Q E s := by
  have hT : s.TypeIs (.ref it) "range_iterator" := ⟨_, hit, rfl⟩
  unfold Builtin.SmallTypes.nextOf
  refine wpAny_bind (wpAny_callSpecial?_slot (name := Str.ofString "__next__") hT F.slot_range_iterator_next
    (call_meets F.slot_range_iterator_next hT F.entry_range_iterator_next (F.args_range_iterator_next_1 _) (AutoRange.range_iterator___next___range_iterator_1 it x left 1 (by (intro _; with_reducible exact ip1 (by assumption) (by assumption)))) ⟨hit, ?_⟩))
  exact wpAny_pure (hQ _ (Heap.get?_update_self _ (Heap.get?_update_self _ hit rfl) rfl) ((Heap.SameBut.update ..).trans (Heap.SameBut.update ..)))
theorem nextOf_range_end {it : Addr} {x left : Int} {Q : Value → Shared → Prop} (hh : A.handled = none) (hit : IsRangeIter s.heap it x left 1) (hleft : left ≤ 0)
    (hE : ∀ h' e, Heap.ExtBut it s.heap h' → (∃ o, h'.get? e = some o ∧ o.cls = .type "StopIteration") → E (.ref e) { s with heap := h' }) :
    wpAny (model prog w) A (Builtin.SmallTypes.nextOf (.ref it)) Q E s := by
  have hT : s.TypeIs (.ref it) "range_iterator" := ⟨_, hit, rfl⟩
  unfold Builtin.SmallTypes.nextOf
  refine wpAny_bind (wpAny_callSpecial?_slot (name := Str.ofString "__next__") hT F.slot_range_iterator_next
    (wpAny_call_entry F.slot_range_iterator_next hT F.entry_range_iterator_next ?_ (F.args_range_iterator_next_1 _)))
  show wpAny _ _ (field (.ref it) 0 >>= _) _ _ s
  refine wpAny_bind (wpAny_field hit rfl (x := rawInt x) rfl ?_)
  show wpAny _ _ (field (.ref it) 1 >>= _) _ _ s
  refine wpAny_bind (wpAny_field hit rfl (x := rawInt left) rfl ?_)
  show wpAny _ _ (field (.ref it) 2 >>= _) _ _ s
  refine wpAny_bind (wpAny_field hit rfl (x := rawInt 1) rfl ?_)
  show wpAny _ _ (if left ≤ 0 then _ else _) _ _ s
  rw [if_pos hleft]
  refine wpAny_bind (wpAny_rule ?_)
  refine wpAny_bind ?_
  show wpAny _ _ (newExc (.type "StopIteration") [] >>= _) _ _ _
  refine wpAny_bind ?_
  simp only [newExc, newTuple]
  refine wpAny_bind (wpAny_newObj_type ?_ (by size_fits))
  refine wpAny_bind (m := firstArgMember _ _) (wpAny_of_eq (a := Value.none) (by first | rfl | (simp only [firstArgMember]; rfl)) ?_)
  refine wpAny_newObj_type ?_ (by size_fits)
  simp only [raiseNew]
  refine wpAny_bind (wpAny_handled ?_)
  first | rw [show A.in1.handled = none from hh] | rw [hh]
  refine wpAny_bind (wpAny_pure (wpAny_throw ?_))
  exact hE _ _ (((Heap.ExtBut.refl it s.heap).push _).push _) ⟨_, Heap.get?_push_size _ rfl, rfl⟩
structure ZAp (z TI TO i1 i2 l : Addr) : Prop where
  TIz : TI ≠ z
  TOz : TO ≠ z
  i1z : i1 ≠ z
  i2z : i2 ≠ z
  TITO : TI ≠ TO
  TIi1 : TI ≠ i1
  TIi2 : TI ≠ i2
  TOi1 : TO ≠ i1
  TOi2 : TO ≠ i2
  i12 : i1 ≠ i2
  lz : l ≠ z
  lTO : l ≠ TO
  li1 : l ≠ i1
  li2 : l ≠ i2
theorem zip_item {z TI TO i1 i2 l : Addr} {x left : Int} {k2 : Nat} {ys : Array Value} {y a b : Value} {Q : Option Value → Shared → Prop} (D : ZAp z TI TO i1 i2 l)
    (hz : IsZip s.heap z TI TO .none) (hTI : IsPair s.heap TI (.ref i1) (.ref i2)) (hTO : IsPair s.heap TO a b)
    (h1 : IsRangeIter s.heap i1 x left 1) (hleft : 0 < left) (h2 : s.heap.IsListIter i2 l k2) (hl : s.heap.IsList l ys) (hy : ys[k2]? = some y)
    (hQ : ∀ h' tk, IsZip h' z TI TO (rawInt s.heap.objs.size) → IsPair h' TO (.int x s.toks) y → IsRangeIter h' i1 (x + 1) (left - 1) 1 → h'.IsListIter i2 l (k2 + 1) → IsPair h' s.heap.objs.size (.int x s.toks) y → h'.objs.size = s.heap.objs.size + 1 →
      (∀ c o, c ≠ z → c ≠ TO → c ≠ i1 → c ≠ i2 → s.heap.get? c = some o → h'.get? c = some o) → Q (some (.ref s.heap.objs.size)) { s with heap := h', toks := tk }) :
    wpAny (model prog w) A (pyNext (.ref z)) Q E s := by
  have core : ∀ E' : Value → Shared → Prop, wpAny (model prog w) A.in1 (Builtin.«zip.__next__» ⟨[.ref z], []⟩) (fun fin s' => ∃ v, fin = .done (.ret v) ∧ Q (some v) s') E' s := by
    intro E'
    show wpAny _ _ (field (.ref z) 2 >>= _) _ _ _
    refine wpAny_bind (wpAny_field hz rfl (x := .bool false) rfl ?_)
    show wpAny _ _ (field (.ref z) 3 >>= _) _ _ _
    refine wpAny_bind (wpAny_field hz rfl (x := .ref TI) rfl ?_)
    refine wpAny_bind (wpAny_seqItems hTI rfl ?_)
    show wpAny _ _ (Builtin.SmallTypes.ownedTupleIsFree (.ref z) >>= _) _ _ _
    refine wpAny_bind ?_
    unfold Builtin.SmallTypes.ownedTupleIsFree
    refine wpAny_bind (wpAny_field hz rfl (x := .none) rfl (wpAny_pure ?_))
    simp only [if_true]
    refine wpAny_bind (wpAny_rule ?_)
    refine wpAny_bind (wpAny_field hz rfl (x := .ref TO) rfl ?_)
    refine wpAny_bind (wpAny_setField_rec hz (by simp) fun h₁ hz₁ hs₁ => ?_)
    replace hz₁ : IsZip h₁ z TI TO .ellipsis := hz₁
    refine wpAny_bind ?_
    simp only [List.zipIdx_cons, List.zipIdx_nil, List.forIn_cons, List.forIn_nil]
    refine wpAny_bind (wpAny_bind (wpAny_onRaise ?_))
    show wpAny _ _ (Builtin.SmallTypes.nextOf (.ref i1) >>= _) _ _ _
    refine wpAny_bind (nextOf_range_item (s := { s with heap := h₁ }) (show IsRangeIter h₁ i1 x left 1 from hs₁.extBut _ _ D.i1z h1) hleft fun h₂ h1₂ hs₂ => wpAny_pure ?_)
    have hTO₂ : IsPair h₂ TO a b := hs₂.extBut _ _ D.TOi1 (hs₁.extBut _ _ D.TOz hTO)
    refine wpAny_bind (wpAny_seqItems hTO₂ rfl ?_)
    refine wpAny_bind (wpAny_updateSeq_pair hTO₂ fun h₃ hTO₃ hs₃ => ?_)
    replace hTO₃ : IsPair h₃ TO (.int x s.toks) b := hTO₃
    refine wpAny_bind (wpAny_letGo (wpAny_pure ?_))
    refine wpAny_bind (wpAny_bind (wpAny_onRaise ?_))
    show wpAny _ _ (Builtin.SmallTypes.nextOf (.ref i2) >>= _) _ _ _
    refine wpAny_bind (wpAny_nextOf_list_item (((h2.extBut hs₁.extBut D.i2z).extBut hs₂.extBut D.i12.symm).extBut hs₃.extBut D.TOi2.symm)
      (((hl.extBut hs₁.extBut D.lz).extBut hs₂.extBut D.li1).extBut hs₃.extBut D.lTO) hy fun h₄ h2₄ hs₄ => wpAny_pure ?_)
    have hTO₄ : IsPair h₄ TO (.int x s.toks) b := hs₄.extBut _ _ D.TOi2 hTO₃
    refine wpAny_bind (wpAny_seqItems hTO₄ rfl ?_)
    refine wpAny_bind (wpAny_updateSeq_pair hTO₄ fun h₅ hTO₅ hs₅ => ?_)
    replace hTO₅ : IsPair h₅ TO (.int x s.toks) y := hTO₅
    refine wpAny_bind (wpAny_letGo (wpAny_pure (wpAny_pure ?_)))
    refine wpAny_bind (wpAny_seqItems hTO₅ rfl ?_)
    refine wpAny_bind (wpAny_newTuple ?_)
    have hsz : h₅.objs.size = s.heap.objs.size := by rw [hs₅.1, hs₄.1, hs₃.1, hs₂.1, hs₁.1]
    have hz₅ : IsZip h₅ z TI TO .ellipsis := hs₅.extBut _ _ D.TOz.symm (hs₄.extBut _ _ D.i2z.symm (hs₃.extBut _ _ D.TOz.symm (hs₂.extBut _ _ D.i1z.symm hz₁)))
    have hk₅ : ∀ c o, c ≠ z → c ≠ TO → c ≠ i1 → c ≠ i2 → s.heap.get? c = some o → h₅.get? c = some o := fun c o c1 c2 c3 c4 e =>
      hs₅.extBut _ _ c2 (hs₄.extBut _ _ c4 (hs₃.extBut _ _ c2 (hs₂.extBut _ _ c3 (hs₁.extBut _ _ c1 e))))
    have h1₅ : IsRangeIter h₅ i1 (x + 1) (left - 1) 1 := hs₅.extBut _ _ D.TOi1.symm (hs₄.extBut _ _ D.i12 (hs₃.extBut _ _ D.TOi1.symm h1₂))
    have h2₅ : h₅.IsListIter i2 l (k2 + 1) := h2₄.extBut hs₅.extBut D.TOi2.symm
    have hzlt : z < h₅.objs.size := Heap.lt_size hz₅
    show wpAny _ _ (Builtin.SmallTypes.ownedTupleHandOut (.ref z) (.ref h₅.objs.size) >>= _) _ _ _
    refine wpAny_bind ?_
    unfold Builtin.SmallTypes.ownedTupleHandOut
    have hz₆ : IsZip (h₅.push { cls := .type "tuple", data := .seq #[.int x s.toks, y] }) z TI TO .ellipsis := Heap.get?_push_of_some _ hz₅
    refine wpAny_bind (wpAny_setField_rec hz₆ (by simp) fun h₇ hz₇ hs₇ => ?_)
    replace hz₇ : IsZip h₇ z TI TO (rawInt h₅.objs.size) := hz₇
    refine wpAny_setField_rec hz₇ (by simp) fun h₈ hz₈ hs₈ => ?_
    replace hz₈ : IsZip h₈ z TI TO (rawInt h₅.objs.size) := hz₈
    have up : ∀ c o, c ≠ z → h₅.get? c = some o → h₈.get? c = some o := fun c o c1 e => hs₈.extBut _ _ c1 (hs₇.extBut _ _ c1 (Heap.get?_push_of_some _ e))
    have hT₈ : IsPair h₈ h₅.objs.size (.int x s.toks) y := hs₈.extBut _ _ (Nat.ne_of_gt hzlt) (hs₇.extBut _ _ (Nat.ne_of_gt hzlt) (Heap.get?_push_size _ rfl))
    have hz8 : h₈.objs.size = h₅.objs.size + 1 := by rw [hs₈.1, hs₇.1, Heap.size_push]
    rw [hsz] at hz₈ hT₈ hz8
    refine wpAny_pure ⟨_, rfl, ?_⟩
    show Q (some (.ref h₅.objs.size)) _
    rw [hsz]
    exact hQ h₈ _ hz₈ (up _ _ D.TOz hTO₅) (up _ _ D.i1z h1₅) (h2₅.at fun o e => up _ o D.i2z e) hT₈ hz8 fun c o c1 c2 c3 c4 e => up c o c1 (hk₅ c o c1 c2 c3 c4 e)
  have hT : s.TypeIs (.ref z) "zip" := ⟨_, hz, rfl⟩
  unfold pyNext
  exact wpAny_bind (wpAny_attempt (wpAny_callSpecial?_slot (name := Str.ofString "__next__") hT F.slot_zip_next
    (wpAny_call_entry F.slot_zip_next hT F.entry_zip_next
      (wpAny_mono (core _) (fun fin s' ⟨v, e1, e2⟩ => ⟨v, e1, wpAny_pure e2⟩) fun _ _ e => e) (F.args_zip_next_1 _))))
theorem zip_end {z TI TO i1 i2 l : Addr} {x left : Int} {a b : Value} {Q : Option Value → Shared → Prop} (hh : A.handled = none) (D : ZAp z TI TO i1 i2 l)
    (hz : IsZip s.heap z TI TO .none) (hTI : IsPair s.heap TI (.ref i1) (.ref i2)) (hTO : IsPair s.heap TO a b) (h1 : IsRangeIter s.heap i1 x left 1) (hleft : left ≤ 0)
    (hQ : ∀ h', (∀ c o, c ≠ z → c ≠ i1 → s.heap.get? c = some o → h'.get? c = some o) → Q none { s with heap := h' }) :
    wpAny (model prog w) A (pyNext (.ref z)) Q E s := by
  have core : ∀ E' : Value → Shared → Prop, (∀ h' e, (∀ c o, c ≠ z → c ≠ i1 → s.heap.get? c = some o → h'.get? c = some o) → (∃ o, h'.get? e = some o ∧ o.cls = .type "StopIteration") → E' (.ref e) { s with heap := h' }) →
      wpAny (model prog w) A.in1 (Builtin.«zip.__next__» ⟨[.ref z], []⟩) (fun fin s' => ∃ v, fin = .done (.ret v) ∧ wpAny (model prog w) A (pure (some v)) Q E s') E' s := by
    intro E' hE
    show wpAny _ _ (field (.ref z) 2 >>= _) _ _ _
    refine wpAny_bind (wpAny_field hz rfl (x := .bool false) rfl ?_)
    show wpAny _ _ (field (.ref z) 3 >>= _) _ _ _
    refine wpAny_bind (wpAny_field hz rfl (x := .ref TI) rfl ?_)
    refine wpAny_bind (wpAny_seqItems hTI rfl ?_)
    show wpAny _ _ (Builtin.SmallTypes.ownedTupleIsFree (.ref z) >>= _) _ _ _
    refine wpAny_bind ?_
    unfold Builtin.SmallTypes.ownedTupleIsFree
    refine wpAny_bind (wpAny_field hz rfl (x := .none) rfl (wpAny_pure ?_))
    simp only [if_true]
    refine wpAny_bind (wpAny_rule ?_)
    refine wpAny_bind (wpAny_field hz rfl (x := .ref TO) rfl ?_)
    refine wpAny_bind (wpAny_setField_rec hz (by simp) fun h₁ hz₁ hs₁ => ?_)
    replace hz₁ : IsZip h₁ z TI TO .ellipsis := hz₁
    refine wpAny_bind ?_
    simp only [List.zipIdx_cons, List.zipIdx_nil, List.forIn_cons, List.forIn_nil]
    refine wpAny_bind (wpAny_bind (wpAny_onRaise ?_))
    show wpAny _ _ (Builtin.SmallTypes.nextOf (.ref i1) >>= _) _ _ _
    refine wpAny_bind (nextOf_range_end (s := { s with heap := h₁ }) hh (show IsRangeIter h₁ i1 x left 1 from hs₁.extBut _ _ D.i1z h1) hleft fun h₂ e hs₂ he => ?_)
    obtain ⟨oe, hoe, hce⟩ := he
    have hz₂ : IsZip h₂ z TI TO .ellipsis := hs₂ _ _ D.i1z.symm hz₁
    have hez : e ≠ z := fun x => by obtain rfl := Eq.symm x; rw [hz₂] at hoe; cases hoe; simp at hce
    refine wpAny_setField_rec hz₂ (by simp) fun h₃ _ hs₃ => hE h₃ e (fun c o c1 c3 x => hs₃.extBut _ _ c1 (hs₂ _ _ c3 (hs₁.extBut _ _ c1 x))) ⟨oe, hs₃.extBut _ _ hez hoe, hce⟩
  have hT : s.TypeIs (.ref z) "zip" := ⟨_, hz, rfl⟩
  unfold pyNext
  refine wpAny_bind (wpAny_attempt (wpAny_callSpecial?_slot (name := Str.ofString "__next__") hT F.slot_zip_next
    (wpAny_call_entry F.slot_zip_next hT F.entry_zip_next (core _ fun h' e hk he => ?_) (F.args_zip_next_1 _))))
  obtain ⟨o, ho, hc⟩ := he
  refine wpAny_bind (wpAny_isInstance (T := "StopIteration") (b := true) ⟨o, ho, hc⟩ isSubtype_stop ?_)
  exact wpAny_pure (hQ _ hk)
end
end Mine
end
section
open PySem PySem.Calls PyProof.Rows
namespace Mine
/-! values without pairs -/
mutual
noncomputable def np : PV → Bool
  | .tup xs => xs.length != 2 && npL xs
  | _ => true
noncomputable def npL : List PV → Bool
  | [] => true
  | p :: ps => np p && npL ps
end
noncomputable def npA : AO → Bool
  | .list xs => npL xs
  | .rlist xs => npL xs
  | _ => true
noncomputable def NPV (m : Vars) : Prop := ∀ x p, m.lookup x = some p → np p = true
noncomputable def NPH (H : HF) : Prop := ∀ a x, H a = some x → npA x = true
noncomputable def PK (TO : Addr) (h h' : Heap) : Prop := (∃ x y, h.get? TO = some (to2 x y)) ∧ ∀ a o, h.get? a = some o → TupO o → a ≠ TO → h'.get? a = some o
mutual
theorem Den.pk {TO : Addr} {h h' : Heap} (k : PK TO h h') : ∀ {p : PV} {v : Value}, np p = true → Den h p v → Den h' p v
  | .none, _, _, e => e
  | .bool _, _, _, e => e
  | .int _, _, _, e => e
  | .bytes _, _, _, e => e
  | .str _, _, _, e => e
  | .ref _, _, _, e => e
  | .type _, _, _, e => e
  | .builtin _, _, _, e => e
  | .tup xs, _, hn, ⟨a, vs, e1, e2, e5⟩ => by
    unfold np at hn
    rw [Bool.and_eq_true] at hn
    refine ⟨a, vs, e1, k.2 a _ e2 ⟨rfl, vs, 0, rfl⟩ fun q => ?_, DenL.pk k hn.2 e5⟩
    refine opq fun Gq hGq => ?_
    obtain ⟨x, y, hT⟩ := k.1
    rw [q, hT] at e2
    (first | exact nsF e2 | exact snF e2 | obtain rfl := Option.some.inj e2 | cases e2)
    refine hGq ?_
    have := e5.length
    have h1 := hn.1
    rw [← this] at h1
    exact absurd h1 (by simp)
theorem DenL.pk {TO : Addr} {h h' : Heap} (k : PK TO h h') : ∀ {ps : List PV} {vs : List Value}, npL ps = true → DenL h ps vs → DenL h' ps vs
  | [], _, _, e => e
  | _ :: _, _, hn, ⟨v, vs', e1, e2, e3⟩ => by
    unfold npL at hn
    rw [Bool.and_eq_true] at hn
    exact ⟨v, vs', e1, Den.pk k hn.1 e2, DenL.pk k hn.2 e3⟩
end
theorem AO.Is.pk {TO : Addr} {h h' : Heap} (k : PK TO h h') : ∀ {x : AO} {o : Obj}, npA x = true → x.Is h o → x.Is h' o
  | .list _, _, hn, ⟨vs, n, c, d⟩ => ⟨vs, n, c, d.pk k hn⟩
  | .rlist _, _, hn, ⟨a, vs, n, c, d⟩ => ⟨a, vs, n, c, d.pk k hn⟩
  | .range .., _, _, e => e
  | .biter .., _, _, e => e
  | .liter .., _, _, e => e
  | .plain, _, _, e => e
  | .obj _, _, _, e => e
section
variable {c : Cx} {env : Env} {Fs : List Addr} {m : Vars}
theorem Inv.chg {R R' : RF} {H H' : HF} {h h' : Heap} {TO : Addr} (I : Inv c env Fs R m H h) (D : Addr → Prop) (hk : ∀ b o, ¬ D b → h.get? b = some o → h'.get? b = some o)
    (dD : ∀ b, D b → c.g.h₀.get? b = none ∧ ∃ o, h.get? b = some o ∧ (∀ es ep, o.data ≠ .dict es ep) ∧ ∀ v, o.data ≠ .cell v) (pk : PK TO h h') (hm : NPV m)
    (hR : ∀ b o, R' b = some o → (R b = some o ∧ ¬ D b) ∨ h'.get? b = some o) (hRn : ∀ b, R b = none → ¬ D b → R' b = none)
    (hH : ∀ b x, H' b = some x → c.g.h₀.get? b = none ∧ R' b = none ∧ ∃ o, h'.get? b = some o ∧ x.Is h' o) (hHn : ∀ b, H b = none → ¬ D b → H' b = none) : Inv c env Fs R' m H' h' := by
  obtain ⟨mv, hn, hmv⟩ := I.locs
  have dL : ¬ D env.locals := fun q => by
    obtain ⟨_, o, xz⟩ := dD _ q
    have e := xz.1
    have k1 := xz.2.1
    obtain ⟨o', es, ep, xz⟩ := hn
    have e' := xz.1
    have d' := xz.2.1
    rw [e] at e'; (first | exact nsF e' | exact snF e' | cases e'); exact k1 _ _ d'
  have dC : ∀ a v, h.IsCell a v → ¬ D a := fun a v ⟨oc, e1, e2⟩ q => by
    obtain ⟨_, o, e, _, k2⟩ := dD _ q
    rw [e] at e1; (first | exact nsF e1 | exact snF e1 | cases e1); exact k2 _ e2
  have cell : ∀ a v, h.IsCell a v → h'.IsCell a v := fun a v y => let ⟨oc, e1, e2⟩ := y; ⟨oc, hk a oc (dC a v y) e1, e2⟩
  refine {
    hi := ⟨fun b o e => hk b o (fun q => by rw [(dD b q).1] at e; (first | exact nsF e | exact snF e | cases e)) (I.hi.base b o e), fun b o e => ?_, hH, fun L hL => ?_⟩
    locR := hRn _ I.locR dL
    locB := I.locB
    locH := hHn _ I.locH dL
    locs := ⟨mv, ?_, fun x p a b => let ⟨v, q, d⟩ := hmv x p a b; ⟨v, q, d.pk pk (hm x p a)⟩⟩
    cels := fun x hx => let ⟨a, v, e1, e2, e3⟩ := I.cels x hx; ⟨a, v, e1, cell _ _ e2, fun p hp => let ⟨w, q, d⟩ := e3 p hp; ⟨w, q, d.pk pk (hm x p hp)⟩⟩
    celH := fun x a e => let ⟨q, v, r⟩ := I.celH x a e; ⟨hHn _ q (dC _ _ r), v, cell _ _ r⟩
    own := fun x hx ho => let ⟨a, e1, e2, e3, e4⟩ := I.own x hx ho; ⟨a, e1, hRn _ e2 (by
      refine opq fun Gq hGq => ?_
      obtain ⟨b, v, p1, p2, _⟩ := I.cels x (.inl hx)
      refine hGq ?_
      rw [e1] at p1; (first | exact nsF p1 | exact snF p1 | cases p1)
      exact dC _ _ p2), e3, e4⟩ }
  · rcases hR b o e with ⟨q1, q2⟩ | q
    · obtain ⟨o', e', k⟩ := I.hi.rest b o q1
      exact ⟨o', hk b o' q2 e', k⟩
    · exact ⟨o, q, .rfl'⟩
  · refine opq fun Gq hGq => ?_
    obtain ⟨p, q, o, es, ep, e, d⟩ := I.hi.frs L hL
    refine hGq ?_
    have dl : ¬ D L := fun z => by
      obtain ⟨_, o2, e2, k1, _⟩ := dD _ z
      rw [e] at e2; (first | exact nsF e2 | exact snF e2 | cases e2); exact k1 _ _ d
    exact ⟨p, hHn _ q dl, o, es, ep, hk _ _ dl e, d⟩
  · refine opq fun Gq hGq => ?_
    obtain ⟨o, es, ep, ho, r⟩ := hn
    refine hGq ?_
    exact ⟨o, es, ep, hk _ _ dL ho, r⟩
theorem Inv.weakR {R R' : RF} {H : HF} {h : Heap} (I : Inv c env Fs R m H h) (k : ∀ b o, R' b = some o → R b = some o) : Inv c env Fs R' m H h := by
  have kn : ∀ b, R b = none → R' b = none := fun b e => by
    cases q : R' b with
    | none => rfl
    | some o => rw [k b o q] at e; (first | exact nsF e | exact snF e | cases e)
  exact { I with
    hi := { I.hi with
      rest := fun b o e => I.hi.rest b o (k b o e)
      mine := fun a x e => let ⟨p, q, r⟩ := I.hi.mine a x e; ⟨p, kn _ q, r⟩ }
    locR := kn _ I.locR
    own := fun x hx ho => let ⟨a, e1, e2, e3, e4⟩ := I.own x hx ho; ⟨a, e1, kn _ e2, e3, e4⟩ }
noncomputable abbrev HZ (H : HF) (i1 it l : Addr) (n k : Nat) : HF := (H.set i1 (.obj (ro k ((n : Int) - k)))).set it (.liter l k)
theorem HZ_it {H : HF} {i1 it l : Addr} {n k : Nat} : HZ H i1 it l n k it = some (.liter l k) := HF.set_self ..
theorem HZ_i1 {H : HF} {i1 it l : Addr} {n k : Nat} (h : i1 ≠ it) : HZ H i1 it l n k i1 = some (.obj (ro k ((n : Int) - k))) := (HF.set_other h).trans (HF.set_self ..)
theorem HZ_ne {H : HF} {i1 it l : Addr} {n k : Nat} {b : Addr} (h : b ≠ it) (h1 : b ≠ i1) : HZ H i1 it l n k b = H b := (HF.set_other h).trans (HF.set_other h1)
structure ZS (c : Cx) (env : Env) (Fs : List Addr) (R : RF) (m0 : Vars) (H : HF) (z a TI TO i1 it l : Addr) (n k : Nat) (acc : List PV) (oa : Obj) (h : Heap) : Prop where
  I : Inv c env Fs ((R.put a oa).put z (zo TI TO .none)) m0 (HZ H i1 it l n k) h
  L : LAt h oa acc
  pi : IsPair h TI (.ref i1) (.ref it)
  po : ∃ x y, IsPair h TO x y
theorem zip_loop {elt iter : Expr} {elts : List Expr} {x1 : Nat} {tpos : Pos} {scope : Scope} {pos : Pos} {R : RF} {m0 : Vars} {H : HF} {z a TI TO i1 it l : Addr} {n : Nat} {xs : List Nat} (f : Nat → PV)
    (hl : H l = some (.list (ni xs))) (hnp : NPV m0) (hnH : NPH H) (hn : n ≤ xs.length) (hn2 : n < 1000) (D : ZAp z TI TO i1 it l) (hza : z ≠ a) (hTa : TO ≠ a) (bz : c.g.h₀.get? z = none) (ba : c.g.h₀.get? a = none) (bT : c.g.h₀.get? TO = none)
    (rz : R z = none) (ra : R a = none) (rT : R TO = none)
    (hstep : ∀ k (hk : k < n), EvA c (.Tuple elts x1 tpos) (.tup [.int (k : Nat), .int (xs[k] : Nat)]) m0 (HZ H i1 it l n (k + 1)) fun m1 H1 => H1 = HZ H i1 it l n (k + 1) ∧ Vars.Le m0 m1 ∧ EvE c elt m1 (HZ H i1 it l n (k + 1)) fun y H2 => H2 = HZ H i1 it l n (k + 1) ∧ y = f k)
    (hf : ∀ k, np (f k) = true) {A : Around} {s : Shared} {oa : Obj} (r : Room c.n Fs A) (eo : EnvOK c A env) (hZ : ZS c env Fs R m0 H z a TI TO i1 it l n 0 [] oa s.heap) :
    codeAny (model c.g.prog c.g.w) A (.compLoop (.ListComp elt [⟨.Tuple elts x1 tpos, iter, [], 0⟩] scope pos) 0 (.ref z) (.ref a) env) (fun r s' => match r with
      | .ok _ => ∃ oa', Inv c env Fs (R.put a oa') m0 ((HZ H i1 it l n n).del i1) s'.heap ∧ LAt s'.heap oa' ((List.range n).map f) ∧ Same s s'
      | .error _ => False) s := by
  have hH1 : ∀ k, HZ H i1 it l n k i1 = some (.obj (ro k ((n : Int) - k))) := fun k => HZ_i1 D.i12
  have hH2 : ∀ k, HZ H i1 it l n k it = some (.liter l k) := fun k => HZ_it
  have hH3 : ∀ k, HZ H i1 it l n k l = some (.list (ni xs)) := fun k => by rw [HZ_ne D.li2 D.li1]; exact hl
  refine codeAny_loop rfl (fun j s' => ∃ k oa, j = n - k ∧ k ≤ n ∧ ZS c env Fs R m0 H z a TI TO i1 it l n k ((List.range k).map f) oa s'.heap ∧ Same s s') (fun j s2 hI => ?_) n ⟨0, oa, rfl, Nat.zero_le _, hZ, Same.rfl'⟩
  clear hZ oa
  refine opq fun Gq hGq => ?_
  obtain ⟨k, oa, xz⟩ := hI
  obtain rfl := xz.1
  have hkn := xz.2.1
  obtain ⟨I, L, pi, x, y, po⟩ := xz.2.2.1
  have e1 := xz.2.2.2
  have l1 := L.facts.1
  have l2 := L.facts.2.1
  have l3 := L.facts.2.2.1
  have l4 := L.facts.2.2.2
  obtain ⟨oz, hoz, kz⟩ := I.hi.rest z _ (RF.put_self ..)
  have := kz.of_not (fun es ep q => by cases q); obtain rfl := Eq.symm this
  obtain ⟨b1, r1, o1, xz⟩ := I.hi.mine i1 _ (hH1 k)
  have ho1 := xz.1
  have he1 := xz.2.1
  obtain rfl := Eq.symm he1
  obtain ⟨b2, r2, o2, xz⟩ := I.hi.mine it _ (hH2 k)
  have ho2 := xz.1
  have hc2 := xz.2.1
  have hd2 := xz.2.2
  obtain ⟨bl, rl, ol, hol, vl, nl, rfl, hdl⟩ := I.hi.mine l _ (hH3 k)
  refine hGq ?_
  have hil : s2.heap.IsList l vl := ⟨_, hol, rfl, nl, rfl⟩
  have hii : s2.heap.IsListIter it l k := ⟨o2, ho2, hc2, hd2⟩
  have hTH : HZ H i1 it l n k TO = none := by
    cases q : HZ H i1 it l n k TO with
    | none => rfl
    | some w => obtain ⟨_, _, o9, q1, q2⟩ := I.hi.mine _ _ q; rw [po] at q1; (first | exact nsF q1 | exact snF q1 | obtain rfl := Option.some.inj q1 | cases q1); exact absurd ⟨rfl, _, _, rfl⟩ q2.notTup
  have hzH : HZ H i1 it l n k z = none := by
    cases q : HZ H i1 it l n k z with
    | none => rfl
    | some w => have xz := I.hi.mine _ _ q; have q1 := xz.2.1; rw [RF.put_self] at q1; (first | exact nsF q1 | exact snF q1 | obtain rfl := Option.some.inj q1 | cases q1)
  show wpAny _ _ ((compTurn (.ListComp elt [⟨.Tuple elts x1 tpos, iter, [], 0⟩] scope pos) 0 (.ref z) (.ref a) env).onRaise (fun x => do noteFrame x env; theTreesLotGoes x)) _ _ s2
  refine wpAny_noted ?_
  rw [compTurn_last elt _ scope pos 0 (.ref z) (.ref a) env (target := .Tuple elts x1 tpos) (iter := iter) (ifs := []) rfl rfl]
  refine wpAny_bind (wpAny_standAt (wpAny_bind ?_))
  rcases Nat.lt_or_ge k n with hlt | hge
  · have hkx : k < xs.length := by with_reducible exact Nat.lt_of_lt_of_le (by assumption) (by assumption)
    obtain ⟨yv, hyv, dy⟩ := hdl.get (i := k) (p := .int (xs[k] : Nat)) (by simp [ni, hkx])
    refine zip_item D hoz pi po (x := k) (left := (n : Int) - k) ho1 (by with_reducible exact zl1 (by assumption)) hii hil (y := yv) (by simpa using hyv) fun h' tk q1 q2 q3 q4 q5 q6 q7 => ?_
    obtain ⟨o3, xz⟩ := id q4
    have ho3 := xz.1
    have hc3 := xz.2.1
    have hd3 := xz.2.2
    have pk : PK TO s2.heap h' := ⟨⟨x, y, po⟩, fun b o e t ne => q7 b o (fun w => by obtain rfl := Eq.symm w; rw [hoz] at e; (first | exact nsF e | exact snF e | obtain rfl := Option.some.inj e | cases e); exact absurd t.1 (by simp)) ne (fun w => by obtain rfl := Eq.symm w; rw [ho1] at e; (first | exact nsF e | exact snF e | obtain rfl := Option.some.inj e | cases e); exact absurd t.1 (by simp)) (fun w => by obtain rfl := Eq.symm w; rw [ho2] at e; (first | exact nsF e | exact snF e | obtain rfl := Option.some.inj e | cases e); rw [TupO, hc2] at t; exact absurd t.1 (by simp)) e⟩
    have e3 : ro (k : Int) ((n : Int) - k) = ro k ((n : Int) - k) := rfl
    have I2 : Inv c env Fs ((R.put a oa).put z (zo TI TO (rawInt s2.heap.objs.size))) m0 (HZ H i1 it l n (k + 1)) h' := by
      refine I.chg (fun b => b = z ∨ b = TO ∨ b = i1 ∨ b = it) (fun b o hD e => ?_) (fun b hD => ?_) pk hnp (fun b o e => ?_) (fun b e hD => ?_) (fun b w e => ?_) (fun b e hD => ?_)
      · simp only [not_or] at hD
        exact q7 b o hD.1 hD.2.1 hD.2.2.1 hD.2.2.2 e
      · rcases hD with rfl | rfl | rfl | rfl
        · exact ⟨bz, _, hoz, fun _ _ w => (by cases w), fun _ w => (by cases w)⟩
        · exact ⟨bT, _, po, fun _ _ w => (by cases w), fun _ w => (by cases w)⟩
        · exact ⟨b1, _, ho1, fun _ _ w => (by cases w), fun _ w => (by cases w)⟩
        · exact ⟨b2, _, ho2, fun _ _ w => (by rw [hd2] at w; (first | exact nsF w | exact snF w | cases w)), fun _ w => (by rw [hd2] at w; (first | exact nsF w | exact snF w | cases w))⟩
      · by_cases hb : b = z
        · obtain rfl := Eq.symm hb; rw [RF.put_self] at e; (first | exact nsF e | exact snF e | obtain rfl := Option.some.inj e | cases e); exact .inr q1
        · left
          rw [RF.put_other hb] at e ⊢
          refine ⟨e, ?_⟩
          simp only [not_or]
          refine ⟨hb, fun w => ?_, fun w => ?_, fun w => ?_⟩
          · (first | (rw [w, RF.put_other hTa, rT] at e; exact nsF e) | (rw [← w, RF.put_other hTa, rT] at e; exact nsF e) | (rw [w, RF.put_other hTa, rT] at e; exact snF e) | (rw [← w, RF.put_other hTa, rT] at e; exact snF e) | (obtain rfl := Eq.symm w; rw [RF.put_other hTa, rT] at e; (first | exact nsF e | exact snF e | obtain rfl := Option.some.inj e | cases e)))
          · obtain rfl := Eq.symm w; rw [RF.put_other hb] at r1; rw [r1] at e; (first | exact nsF e | exact snF e | obtain rfl := Option.some.inj e | cases e)
          · obtain rfl := Eq.symm w; rw [RF.put_other hb] at r2; rw [r2] at e; (first | exact nsF e | exact snF e | obtain rfl := Option.some.inj e | cases e)
      · simp only [not_or] at hD
        rw [RF.put_other hD.1] at e ⊢; exact e
      · by_cases h2 : b = it
        · obtain rfl := Eq.symm h2
          rw [hH2] at e; (first | exact nsF e | exact snF e | cases e)
          exact ⟨b2, by rw [RF.put_other D.i2z] at r2 ⊢; exact r2, o3, ho3, hc3, hd3⟩
        · by_cases h1 : b = i1
          · obtain rfl := Eq.symm h1
            rw [hH1] at e; (first | exact nsF e | exact snF e | cases e)
            refine ⟨b1, by rw [RF.put_other D.i1z] at r1 ⊢; exact r1, _, q3, ?_, fun w => absurd w.1 (by simp)⟩
            have ee : ((n : Int) - k - 1) = (n : Int) - ((k + 1 : Nat) : Int) := by with_reducible exact ix6
            have ef : ((k : Int) + 1) = ((k + 1 : Nat) : Int) := by with_reducible exact ci6 _
            rw [ee, ef]
          · have e' : HZ H i1 it l n k b = some w := by rw [HZ_ne h2 h1] at e ⊢; exact e
            refine opq fun Gq hGq => ?_
            obtain ⟨w1, w2, o9, w3, w4⟩ := I.hi.mine b w e'
            refine hGq ?_
            have hbz : b ≠ z := fun q => by (first | (rw [q, hzH] at e'; exact nsF e') | (rw [← q, hzH] at e'; exact nsF e') | (rw [q, hzH] at e'; exact snF e') | (rw [← q, hzH] at e'; exact snF e') | (obtain rfl := Eq.symm q; rw [hzH] at e'; (first | exact nsF e' | exact snF e' | obtain rfl := Option.some.inj e' | cases e')))
            have hbT : b ≠ TO := fun q => by (first | (rw [q, hTH] at e'; exact nsF e') | (rw [← q, hTH] at e'; exact nsF e') | (rw [q, hTH] at e'; exact snF e') | (rw [← q, hTH] at e'; exact snF e') | (obtain rfl := Eq.symm q; rw [hTH] at e'; (first | exact nsF e' | exact snF e' | obtain rfl := Option.some.inj e' | cases e')))
            have hw : npA w = true := hnH b w (by rw [HZ_ne h2 h1] at e; exact e)
            exact ⟨w1, by rw [RF.put_other hbz] at w2 ⊢; exact w2, o9, q7 b o9 hbz hbT h1 h2 w3, w4.pk pk hw⟩
      · simp only [not_or] at hD
        rw [HZ_ne hD.2.2.2 hD.2.2.1] at e ⊢; exact e
    have L2 : LAt h' oa ((List.range k).map f) := by
      obtain ⟨vs, n9, w1, w2⟩ := L
      refine ⟨vs, n9, w1, w2.pk pk ?_⟩
      clear w2 w1
      induction (List.range k) with
      | nil => rfl
      | cons j r ih => show npL (f j :: r.map f) = true; unfold npL; rw [hf j, ih]; rfl
    have pi2 : IsPair h' TI (.ref i1) (.ref it) := q7 TI _ D.TIz D.TITO D.TIi1 D.TIi2 pi
    refine wpAny_bind (wpAny_letOwnedTupleGo_zip (s := { s2 with heap := h', toks := tk }) q1 fun h3 hz3 hs3 => wpAny_bind ?_)
    obtain ⟨I3, k3⟩ := I2.rehide (it := z) (fun _ _ w => by cases w) (fun _ w => by cases w) (fun w => absurd w.1 (by simp)) bz hs3 hz3
    have dT : Den h3 (.tup [.int (k : Nat), .int (xs[k] : Nat)]) (.ref s2.heap.objs.size) := by
      refine ⟨_, _, rfl, hs3.extBut _ _ (fun w => ?_) q5, _, _, rfl, ⟨_, rfl⟩, _, _, rfl, ?_, rfl⟩
      · have := Heap.lt_size hoz; rw [← w] at this; exact Nat.lt_irrefl _ this
      · obtain ⟨t9, rfl⟩ := dy; exact ⟨t9, rfl⟩
    refine AK.bd (hstep k hlt A env Fs _ { s2 with heap := h3, toks := tk } _ _ r eo I3 dT) fun _ s4 m4 H4 xq3 I5 e5 k5 => ?_
    have w1 := xq3.1
    have w2 := xq3.2.1
    have w3 := xq3.2.2
    obtain rfl := Eq.symm w1
    refine wpAny_bind (tests_ok (ifs := []) (Q := fun b H' => b = true ∧ H' = HZ H i1 it l n (k + 1)) ⟨rfl, rfl⟩ r eo I5 fun ok s5 H5 xq4 I6 e6 k6 => ?_)
    have q8 := xq4.1
    have q9 := xq4.2
    obtain rfl := Eq.symm q8; obtain rfl := Eq.symm q9
    rw [if_pos rfl]
    refine wpAny_bind (wpAny_bind (EvE.bd w3 r eo I6 fun v s6 p6 H6 xq5 d6 I7 e7 k7 => ?_))
    refine opq fun Gq hGq => ?_
    have q10 := xq5.1
    have q11 := xq5.2
    obtain rfl := Eq.symm q10; obtain rfl := Eq.symm q11
    have kk : TupKeep h' s6.heap := ((k3.trans k5).trans k6).trans k7
    obtain ⟨oa', hoa, ka⟩ := I7.hi.rest a oa (by rw [RF.put_other (Ne.symm hza), RF.put_self])
    refine hGq ?_
    have := ka.of_not l1; obtain rfl := Eq.symm this
    refine wpAny_bind (append_L hoa (L2.keeps kk) d6 (by simp; with_reducible exact Nat.lt_of_le_of_lt (by assumption) (Nat.lt_of_lt_of_le (by assumption) (by decide))) fun h9 o9 hs9 ho9 hL9 => wpAny_pure (wpAny_pure ?_))
    rw [RF.put_comm (Ne.symm hza)] at I7
    have xz := I7.rehide l1 l2 l3 ba hs9 ho9
    have I8 := xz.1
    have k8 := xz.2
    rw [RF.put_comm hza] at I8
    refine ⟨rfl, n - (k + 1), by with_reducible exact ns3 (by assumption), k + 1, o9, rfl, hlt, ⟨I8.vars w2, ?_, k8 _ _ (kk _ _ pi2 ⟨rfl, _, _, rfl⟩) ⟨rfl, _, _, rfl⟩, _, _, k8 _ _ (kk _ _ q2 ⟨rfl, _, _, rfl⟩) ⟨rfl, _, _, rfl⟩⟩, ?_⟩
    · rw [List.range_succ, List.map_append]; exact hL9.keeps k8
    · exact (((e1.trans Same.mk).trans e5).trans (e6.trans e7)).trans Same.heap
  · have hkk : k = n := by with_reducible exact Nat.le_antisymm (by assumption) (by assumption)
    subst hkk
    refine zip_end r.1 D hoz pi po (x := k) (left := (k : Int) - k) ho1 (by with_reducible exact zl2 _) fun h' hk => wpAny_pure ?_
    have pk : PK TO s2.heap h' := ⟨⟨x, y, po⟩, fun b o e t ne => hk b o (fun w => by obtain rfl := Eq.symm w; rw [hoz] at e; (first | exact nsF e | exact snF e | obtain rfl := Option.some.inj e | cases e); exact absurd t.1 (by simp)) (fun w => by obtain rfl := Eq.symm w; rw [ho1] at e; (first | exact nsF e | exact snF e | obtain rfl := Option.some.inj e | cases e); exact absurd t.1 (by simp)) e⟩
    refine ⟨oa, ?_, ?_, e1.trans Same.heap⟩
    · refine I.chg (fun b => b = z ∨ b = i1) (fun b o hD e => ?_) (fun b hD => ?_) pk hnp (fun b o e => ?_) (fun b e hD => ?_) (fun b w e => ?_) (fun b e hD => ?_)
      · simp only [not_or] at hD
        exact hk b o hD.1 hD.2 e
      · rcases hD with rfl | rfl
        · exact ⟨bz, _, hoz, fun _ _ w => (by cases w), fun _ w => (by cases w)⟩
        · exact ⟨b1, _, ho1, fun _ _ w => (by cases w), fun _ w => (by cases w)⟩
      · have hb : b ≠ z := fun w => by (first | (rw [w, RF.put_other hza, rz] at e; exact nsF e) | (rw [← w, RF.put_other hza, rz] at e; exact nsF e) | (rw [w, RF.put_other hza, rz] at e; exact snF e) | (rw [← w, RF.put_other hza, rz] at e; exact snF e) | (obtain rfl := Eq.symm w; rw [RF.put_other hza, rz] at e; (first | exact nsF e | exact snF e | obtain rfl := Option.some.inj e | cases e)))
        left
        rw [RF.put_other hb]
        refine ⟨e, ?_⟩
        simp only [not_or]
        exact ⟨hb, fun w => by obtain rfl := Eq.symm w; rw [RF.put_other hb] at r1; rw [r1] at e; (first | exact nsF e | exact snF e | obtain rfl := Option.some.inj e | cases e)⟩
      · simp only [not_or] at hD
        rw [RF.put_other hD.1] at e; exact e
      · have h1 : b ≠ i1 := fun q => by (first | (rw [q, HF.del_self] at e; exact nsF e) | (rw [← q, HF.del_self] at e; exact nsF e) | (rw [q, HF.del_self] at e; exact snF e) | (rw [← q, HF.del_self] at e; exact snF e) | (obtain rfl := Eq.symm q; rw [HF.del_self] at e; (first | exact nsF e | exact snF e | obtain rfl := Option.some.inj e | cases e)))
        rw [HF.del_other h1] at e
        refine opq fun Gq hGq => ?_
        obtain ⟨w1, w2, o9, w3, w4⟩ := I.hi.mine b w e
        refine hGq ?_
        have hbz : b ≠ z := fun q => by (first | (rw [q, hzH] at e; exact nsF e) | (rw [← q, hzH] at e; exact nsF e) | (rw [q, hzH] at e; exact snF e) | (rw [← q, hzH] at e; exact snF e) | (obtain rfl := Eq.symm q; rw [hzH] at e; (first | exact nsF e | exact snF e | obtain rfl := Option.some.inj e | cases e)))
        have hw : npA w = true := by
          by_cases h2 : b = it
          · subst h2; rw [hH2] at e; (first | exact nsF e | exact snF e | obtain rfl := Option.some.inj e | cases e); rfl
          · exact hnH b w (by rw [HZ_ne h2 h1] at e; exact e)
        exact ⟨w1, by rw [RF.put_other hbz] at w2; exact w2, o9, hk b o9 hbz h1 w3, w4.pk pk hw⟩
      · simp only [not_or] at hD
        rw [HF.del_other hD.2]; exact e
    · obtain ⟨vs, n9, w1, w2⟩ := L
      refine ⟨vs, n9, w1, w2.pk pk ?_⟩
      clear w2 w1
      induction (List.range k) with
      | nil => rfl
      | cons j r ih => show npL (f j :: r.map f) = true; unfold npL; rw [hf j, ih]; rfl
end
end Mine
end
section
open PySem PySem.Calls PyProof.Rows
namespace Mine
/-- what a comprehension over a zip asks for -/
inductive ZH (c : Cx) (elt : Expr) (elts : List Expr) (x1 : Nat) (tpos : Pos) (scope : Scope) (m0 : Vars) (f : Nat → PV) (Qa : Addr → HF → Prop) (fv : PV) (vs : List PV) (H2 : HF) : Prop
  | mk (e1 : fv = .type "zip") (rg it l : Addr) (n : Nat) (xs : List Nat) (e2 : vs = [.ref rg, .ref it]) (g1 : H2 rg = some (.range 0 n)) (g2 : H2 it = some (.liter l 0)) (g3 : H2 l = some (.list (ni xs))) (hn : n ≤ xs.length) (hn2 : n < 1000) (hp : NPV m0) (hh : NPH H2) (hf : ∀ k, np (f k) = true)
    (hstep : ∀ i1, H2 i1 = none → ∀ k (hk : k < n) (hx : k < xs.length), EvA (compCx c scope) (.Tuple elts x1 tpos) (.tup [.int (k : Nat), .int (xs[k] : Nat)]) m0 (HZ H2 i1 it l n (k + 1)) fun m1 H1 => H1 = HZ H2 i1 it l n (k + 1) ∧ Vars.Le m0 m1 ∧ EvE (compCx c scope) elt m1 (HZ H2 i1 it l n (k + 1)) fun y H3 => H3 = HZ H2 i1 it l n (k + 1) ∧ y = f k)
    (hQ : ∀ a, H2 a = none → Qa a ((H2.set it (.liter l n)).set a (.list ((List.range n).map f))))
section
variable {c : Cx} {m : Vars} {H : HF}
theorem comp_coreZ {elt : Expr} {elts : List Expr} {x1 : Nat} {tpos pos zp ipos : Pos} {scope : Scope} {zx : Str} {args : List Expr} {use : Option (Value → Sem Unit)} {f : Nat → PV} {m0 : Vars} (ha : args.all (fun e => !isStar e) = true)
    (hok : compOK scope c.sc = true) (hns : notSet (.Call (.Name zx zp) args [] ipos) = true) (hm : compVars scope m = m0)
    {A : Around} {env : Env} {Fs : List Addr} {R : RF} {s : Shared} {E : Value → Shared → Prop} {K : Value → Shared → Prop} {Qa : Addr → HF → Prop} (r : Room c.n Fs A) (eo : EnvOK c A env) (I : Inv c env Fs R m H s.heap)
    (h : EvE c (.Name zx zp) m H fun fv H1 => EvL c ipos args m H1 fun vs H2 => ZH c elt elts x1 tpos scope m0 f Qa fv vs H2)
    (hq : ∀ a C H2 s', Qa a H2 → Inv c env Fs R m H2 s'.heap → Same s s' → TupKeep s.heap s'.heap →
      (∃ mv, s'.heap.Ns C mv) → R C = none → c.g.h₀.get? C = none → H2 C = none → C ∉ Fs → C ≠ env.locals → (∀ x b, env.cells.lookup x = some b → b ≠ C) →
      compPost (model c.g.prog c.g.w) A E use K (.ref a) C (.ok .next) s') :
    wpAny (model c.g.prog c.g.w) A (comprehension (.ListComp elt [⟨.Tuple elts x1 tpos, .Call (.Name zx zp) args [] ipos, [], 0⟩] scope pos) scope env (firstIterPos [⟨.Tuple elts x1 tpos, .Call (.Name zx zp) args [] ipos, [], 0⟩] pos) (newList []) (firstAsync [⟨.Tuple elts x1 tpos, .Call (.Name zx zp) args [] ipos, [], 0⟩]) (firstIter [⟨.Tuple elts x1 tpos, .Call (.Name zx zp) args [] ipos, [], 0⟩] env) use) K E s := by
  obtain ⟨cl, hcl⟩ := closureFor_ok hok eo I
  have hk : scope.kind = .function := by
    unfold compOK at hok; rw [Bool.and_eq_true, Bool.and_eq_true] at hok; simpa using hok.1.1
  have hnm : ∀ x ∈ scope.names, x.2 = .local → scope.names.lookup x.1 = some .local := fun x hx e => by
    unfold compOK at hok; rw [Bool.and_eq_true, Bool.and_eq_true, List.all_eq_true] at hok
    have := hok.1.2 x hx; rw [e] at this; simpa using this
  show wpAny _ A (comprehension (.ListComp elt [⟨.Tuple elts x1 tpos, .Call (.Name zx zp) args [] ipos, [], 0⟩] scope pos) scope env (firstIterPos [⟨.Tuple elts x1 tpos, .Call (.Name zx zp) args [] ipos, [], 0⟩] pos) (newList []) false (eval (.Call (.Name zx zp) args [] ipos) env) use) K E s
  refine wpAny_comprehension_free (g := ⟨.Tuple elts x1 tpos, .Call (.Name zx zp) args [] ipos, [], 0⟩) (gs := []) rfl (folded_not hns env) hcl hk hnm ?_
  refine wpAny_Call_Name_kw ?_
  refine EvE.bd h r eo I fun fv s1 p1 H1 q1 d1 I1 e1 k1 => ?_
  refine callWith_any (ps := []) ha rfl rfl ?_
  refine EvL.bd q1 r eo I1 fun vs s2 p2 H2 q2 d2 I2 e2 k2 => ?_
  refine opq fun Gq hGq => ?_
  obtain ⟨hp1, rg, it, l, n, xs, hp2, g1, g2, g3, hn, hn2, hnp, hnH, hf, hstep, hQ⟩ := q2
  obtain rfl := Eq.symm hp1; obtain rfl := Eq.symm hp2
  (first | exact nsF d1 | exact snF d1 | obtain rfl := Option.some.inj d1 | cases d1)
  obtain ⟨_, _, rfl, rfl, ⟨_, _, rfl, rfl, rfl⟩⟩ := d2
  refine hGq ?_
  refine wpAny_pure ⟨.inl (fun a q => by cases q), ?_⟩
  show wpAny _ A (call (.type "zip") [.ref rg, .ref it] []) _ E s2
  refine opq fun Gq hGq => ?_
  obtain ⟨_, _, org, hrg, t, u, v, rfl⟩ := I2.hi.mine rg _ g1
  obtain ⟨_, _, oit, hit, hitc, hitd⟩ := I2.hi.mine it _ g2
  refine hGq ?_
  refine call_zip' hn2 hrg ⟨oit, hit, hitc, hitd⟩ ?_
  -- heaps and places
  have z1 : (zH1 s2.heap n).objs.size = s2.heap.objs.size + 1 := Heap.size_push ..
  have z2 : (zH2 s2.heap n it).objs.size = s2.heap.objs.size + 2 := by rw [Heap.size_push, z1]
  have z3 : (zH3 s2.heap n it).objs.size = s2.heap.objs.size + 3 := by rw [Heap.size_push, z2]
  have hi1 : H2 s2.heap.objs.size = none := I2.hi.sizeH
  have I3 : Inv c env Fs R m (H2.set s2.heap.objs.size (.obj (ro 0 n))) (zH3 s2.heap n it) :=
    ((I2.alloc (x := .obj (ro 0 n)) (o := ro 0 n) ⟨rfl, fun q => absurd q.1 (by simp)⟩ rfl).push).push
  have x13 : Ext (zH1 s2.heap n) (zH3 s2.heap n it) := (Ext.push _ _).trans (Ext.push _ _)
  have x03 : Ext s2.heap (zH3 s2.heap n it) := (Ext.push _ _).trans x13
  have gz : (zH4 s2.heap n it).get? (s2.heap.objs.size + 3) = some (zo (s2.heap.objs.size + 1) (s2.heap.objs.size + 2) .none) := by rw [← z3]; exact Heap.get?_push_size _ rfl
  have gT : (zH3 s2.heap n it).get? (s2.heap.objs.size + 2) = some (to2 .none .none) := by rw [← z2]; exact Heap.get?_push_size _ rfl
  have gI : (zH3 s2.heap n it).get? (s2.heap.objs.size + 1) = some (to2 (.ref s2.heap.objs.size) (.ref it)) := Heap.get?_push_of_some _ (by rw [← z1]; exact Heap.get?_push_size _ rfl)
  refine wpAny_pyIter_zip gz ?_
  refine wpAny_newList ?_
  have big : ∀ d, s2.heap.objs.size ≤ d → s2.heap.get? d = none := fun d hd => by
    cases q : s2.heap.get? d with
    | none => rfl
    | some z => exact absurd (Heap.lt_size q) (Nat.not_lt.mpr hd)
  have bigB : ∀ d, s2.heap.objs.size ≤ d → c.g.h₀.get? d = none := fun d hd => by
    cases q : c.g.h₀.get? d with
    | none => rfl
    | some z => have := big d hd; rw [I2.hi.base d z q] at this; (first | exact nsF this | exact snF this | obtain rfl := Option.some.inj this | cases this)
  have bigH : ∀ d, s2.heap.objs.size ≤ d → H2 d = none := fun d hd => by
    cases q : H2 d with
    | none => rfl
    | some z => obtain ⟨_, _, o2, q2, _⟩ := I2.hi.mine d z q; rw [big d hd] at q2; (first | exact nsF q2 | exact snF q2 | obtain rfl := Option.some.inj q2 | cases q2)
  have bigR : ∀ d, s2.heap.objs.size ≤ d → restR H2 s2.heap d = none := fun d hd => by rw [restR_of (bigH d hd), big d hd]
  have ltit := Heap.lt_size hit
  refine opq fun Gq hGq => ?_
  obtain ⟨_, _, ol, hol, vl, nl, rfl, hdl⟩ := I2.hi.mine l _ g3
  have ltl := Heap.lt_size hol
  have hlit : l ≠ it := fun q => by rw [q, g2] at g3; (first | exact nsF g3 | exact snF g3 | cases g3)
  obtain ⟨cl', hcl', run⟩ := comp_enter (s := { s2 with heap := zH3 s2.heap n it }) (E := E) (o := zo (s2.heap.objs.size + 1) (s2.heap.objs.size + 2) .none) (oa := { cls := .type "list", data := .seq ([] : List Value).toArray }) (K := fun cenv s₄ =>
        codeAny (model c.g.prog c.g.w) A (.compStart (.ListComp elt [⟨.Tuple elts x1 tpos, .Call (.Name zx zp) args [] ipos, [], 0⟩] scope pos) 0 (.ref (s2.heap.objs.size + 3)) (.ref (zH4 s2.heap n it).objs.size) { cenv with scope := relabel scope env }) (compPost (model c.g.prog c.g.w) A E use K (.ref (zH4 s2.heap n it).objs.size) cenv.locals) s₄) hok eo I3 rfl rfl
    (fun cenv s5 eo5 I5 nF nH nR nB na nit e5 x5 x5' none5 => by
      have z4 : (zH4 s2.heap n it).objs.size = s2.heap.objs.size + 4 := by rw [Heap.size_push, z3]
      rw [z4]
      rw [show (({ s2 with heap := zH3 s2.heap n it } : Shared).heap.objs.size) = s2.heap.objs.size + 3 from z3] at I5 na nit
      have I6 := I5.weakR (R' := ((restR H2 s2.heap).put (s2.heap.objs.size + 4) { cls := .type "list", data := .seq ([] : List Value).toArray }).put (s2.heap.objs.size + 3) (zo (s2.heap.objs.size + 1) (s2.heap.objs.size + 2) .none)) (fun b o e => by
        by_cases hb : b = s2.heap.objs.size + 3
        · obtain rfl := Eq.symm hb; rw [RF.put_self] at e ⊢; exact e
        · rw [RF.put_other hb] at e ⊢
          by_cases hb' : b = s2.heap.objs.size + 4
          · obtain rfl := Eq.symm hb'; rw [RF.put_self] at e; rw [show s2.heap.objs.size + 4 = s2.heap.objs.size + 3 + 1 from rfl, RF.put_self]; exact e
          · rw [RF.put_other hb'] at e; rw [RF.put_other hb']
            unfold restR at e
            split at e
            · rename_i hHb
              have hlt := Heap.lt_size e
              have hne : b ≠ s2.heap.objs.size := Nat.ne_of_lt hlt
              rw [restR_of (by rw [HF.set_other hne]; exact hHb)]
              exact x03 b o e
            · (first | exact nsF e | exact snF e | obtain rfl := Option.some.inj e | cases e))
      have hzget : s5.heap.get? (s2.heap.objs.size + 3) = some (zo (s2.heap.objs.size + 1) (s2.heap.objs.size + 2) .none) := x5' _ _ (Heap.get?_push_of_some _ gz)
      have D : ZAp (s2.heap.objs.size + 3) (s2.heap.objs.size + 1) (s2.heap.objs.size + 2) s2.heap.objs.size it l := ⟨Nat.ne_of_lt (by with_reducible exact Nat.add_lt_add_left (by decide) _), Nat.ne_of_lt (by with_reducible exact Nat.lt_succ_self _), Nat.ne_of_lt (by with_reducible exact Nat.lt_add_of_pos_right (by decide)), Nat.ne_of_lt (Nat.lt_trans ltit (by with_reducible exact Nat.lt_add_of_pos_right (by decide))), Nat.ne_of_lt (by with_reducible exact Nat.lt_succ_self _), Nat.ne_of_gt (by with_reducible exact Nat.lt_succ_self _), Nat.ne_of_gt (Nat.lt_trans ltit (by with_reducible exact Nat.lt_succ_self _)), Nat.ne_of_gt (by with_reducible exact Nat.lt_add_of_pos_right (by decide)), Nat.ne_of_gt (Nat.lt_trans ltit (by with_reducible exact Nat.lt_add_of_pos_right (by decide))), Nat.ne_of_gt ltit, Nat.ne_of_lt (Nat.lt_trans ltl (by with_reducible exact Nat.lt_add_of_pos_right (by decide))), Nat.ne_of_lt (Nat.lt_trans ltl (by with_reducible exact Nat.lt_add_of_pos_right (by decide))), Nat.ne_of_lt ltl, hlit⟩
      have hle0 : HF.Le (HZ H2 s2.heap.objs.size it l n 0) (H2.set s2.heap.objs.size (.obj (ro 0 n))) := fun b y e => by
        by_cases h2 : b = it
        · obtain rfl := Eq.symm h2; rw [HZ_it] at e; rw [HF.set_other (Nat.ne_of_lt ltit), g2]; exact e
        · by_cases h1 : b = s2.heap.objs.size
          · obtain rfl := Eq.symm h1; rw [HZ_i1 D.i12] at e; rw [HF.set_self]; rw [← e]; simp
          · rw [HZ_ne h2 h1] at e; rw [HF.set_other h1]; exact e
      have run := zip_loop (c := compCx c scope) (elt := elt) (iter := .Call (.Name zx zp) args [] ipos) (elts := elts) (x1 := x1) (tpos := tpos) (scope := scope) (pos := pos) (R := restR H2 s2.heap) (m0 := m0) (H := H2) (z := s2.heap.objs.size + 3) (a := s2.heap.objs.size + 4) (TI := s2.heap.objs.size + 1) (TO := s2.heap.objs.size + 2) (i1 := s2.heap.objs.size) (it := it) (l := l) (n := n) (xs := xs) f
        g3 hnp hnH hn hn2 D (Nat.ne_of_lt (by with_reducible exact Nat.lt_succ_self _)) (Nat.ne_of_lt (by with_reducible exact Nat.add_lt_add_left (by decide) _)) (bigB _ (by with_reducible exact Nat.le_add_right _ _)) (bigB _ (by with_reducible exact Nat.le_add_right _ _)) (bigB _ (by with_reducible exact Nat.le_add_right _ _)) (bigR _ (by with_reducible exact Nat.le_add_right _ _)) (bigR _ (by with_reducible exact Nat.le_add_right _ _)) (bigR _ (by with_reducible exact Nat.le_add_right _ _)) (fun k hk => hstep _ hi1 k hk (by with_reducible exact Nat.lt_of_lt_of_le (by assumption) (by assumption))) hf r eo5
        ⟨by rw [← hm]; exact I6.less (Vars.Le.refl _) hle0, ⟨_, _, rfl, rfl⟩, x5' _ _ (Heap.get?_push_of_some _ (Heap.get?_push_of_some _ gI)), _, _, x5' _ _ (Heap.get?_push_of_some _ (Heap.get?_push_of_some _ gT))⟩
      refine compStart_loop (target := .Tuple elts x1 tpos) (iter := .Call (.Name zx zp) args [] ipos) (ifs := []) rfl (codeAny_mono run fun rr s7 h7 => ?_) (fun K' E' hK => wpAny_pyIter_zip hzget hK)
      cases rr with
      | error x => exact h7.elim
      | ok f' =>
        obtain ⟨oa', I7, L7, e7⟩ := h7
        obtain ⟨J, ha'⟩ := I7.hi.adopt (bigR _ (by with_reducible exact Nat.le_add_right _ _)) (bigB _ (by with_reducible exact Nat.le_add_right _ _)) L7
        obtain ⟨J', kt⟩ := Inv.back I2 J
        have hdel : (HZ H2 s2.heap.objs.size it l n n).del s2.heap.objs.size = H2.set it (.liter l n) := by
          funext b
          by_cases h1 : b = s2.heap.objs.size
          · obtain rfl := Eq.symm h1; rw [HF.del_self, HF.set_other (Nat.ne_of_gt ltit), hi1]
          · rw [HF.del_other h1]
            by_cases h2 : b = it
            · obtain rfl := Eq.symm h2; rw [HZ_it, HF.set_self]
            · rw [HZ_ne h2 h1, HF.set_other h2]
        rw [hdel] at J' ha' I7
        obtain ⟨mv, hn7, _⟩ := I7.locs
        have none2 : s2.heap.get? cenv.locals = none := by
          cases q : s2.heap.get? cenv.locals with
          | none => rfl
          | some o9 =>
            have := x03 _ _ q
            rw [show (zH3 s2.heap n it).get? cenv.locals = none from none5] at this; (first | exact nsF this | exact snF this | cases this)
        have nH' : ((H2.set it (.liter l n)).set (s2.heap.objs.size + 4) (.list ((List.range n).map f))) cenv.locals = none := by
          rw [HF.set_other na]; exact I7.locH
        have res := hq (s2.heap.objs.size + 4) cenv.locals _ s7 (hQ _ (bigH _ (Nat.le_add_right _ _))) J' (((e1.trans e2).trans Same.heap).trans (e5.trans e7)) ((k1.trans k2).trans kt) ⟨mv, hn7⟩ (by
          cases z : R cenv.locals with
          | none => rfl
          | some z' => obtain ⟨_, q, _⟩ := I2.hi.rest _ _ z; rw [none2] at q; (first | exact nsF q | exact snF q | obtain rfl := Option.some.inj q | cases q)) nB nH' nF (by
          obtain ⟨mv', hn', _⟩ := I2.locs
          obtain ⟨o', _, _, z, _⟩ := hn'
          intro w; rw [w, z] at none2; (first | exact nsF none2 | exact snF none2 | obtain rfl := Option.some.inj none2 | cases none2)) (fun x b e w => by
          obtain ⟨_, v, o', z, _⟩ := I2.celH x b e
          rw [w, none2] at z; (first | exact nsF z | exact snF z | cases z))
        cases use <;> exact res)
  rw [hcl] at hcl'
  have hcc : cl = cl' := by injection hcl'
  obtain rfl := Eq.symm hcc
  refine hGq ?_
  exact run
theorem EvS_AssignZip {x : Str} {px : Pos} {elt : Expr} {elts : List Expr} {x1 : Nat} {tpos cpos pos zp ipos : Pos} {scope : Scope} {zx : Str} {args : List Expr} {Q : Fl → Vars → HF → Prop} (f : Nat → PV) (m0 : Vars)
    (hsw : ∀ env, env.scope = c.sc → swapsWithSole [.Name x px] (.ListComp elt [⟨.Tuple elts x1 tpos, .Call (.Name zx zp) args [] ipos, [], 0⟩] scope cpos) pos.line env = pure true) (hk : kindIn c x = some .local) (ha : args.all (fun e => !isStar e) = true)
    (hok : compOK scope c.sc = true) (hns : notSet (.Call (.Name zx zp) args [] ipos) = true) (hm : compVars scope m = m0)
    (h : EvE c (.Name zx zp) m H fun fv H1 => EvL c ipos args m H1 fun vs H2 => ZH c elt elts x1 tpos scope m0 f (fun a Ha => Q .next ((x, .ref a) :: m) Ha) fv vs H2) :
    EvS c (.Assign [.Name x px] (.ListComp elt [⟨.Tuple elts x1 tpos, .Call (.Name zx zp) args [] ipos, [], 0⟩] scope cpos) pos) m H Q := by
  refine EvM.mk fun A env Fs R s E r eo I => ?_
  rw [arm_exec_Assign, hsw env eo.scope]
  refine wpAny_bind (wpAny_standAt (wpAny_bind (wpAny_pure ?_)))
  simp only [if_true]
  rw [arm_evalThenUse_ListComp]
  refine wpAny_bind (wpAny_bind ?_)
  refine comp_coreZ (f := f) (m0 := m0) (Qa := fun a Ha => Q .next ((x, .ref a) :: m) Ha) ha hok hns hm r eo I h fun a C Ha s' q I' e' k' xmv cR cB cH cF cL cC => ?_
  show wpAny _ A (assign (.Name x px) env (.ref a)) _ E s'
  refine opq fun Gq hGq => ?_
  obtain ⟨mv, oC, es, ep, hoC, hdC, hrC⟩ := xmv
  refine hGq ?_
  refine wpAny_assign_Name ?_
  have hst : stoOK c x = true := by unfold stoOK; rw [hk]
  refine wpAny_mono (sto (p := .ref a) hst eo (I'.protect hoC cH cL cC) rfl) (fun _ s2 xq6 => ?_) fun _ _ x => x
  refine opq fun Gq hGq => ?_
  obtain ⟨J, e2, k2⟩ := xq6
  obtain ⟨J, hH, ⟨oC', hoC', kC⟩, hL⟩ := J.unprotect cR
  refine hGq ?_
  refine ⟨mv, ⟨oC', es, ep, hoC', kC.data.1.trans hdC, hrC⟩, fun h' hs' => ?_⟩
  have hT : ∀ o, s2.heap.get? C = some o → ¬ TupO o := fun o e q => by
    obtain ⟨_, vs, n, d⟩ := q
    rw [hoC'] at e; (first | exact nsF e | exact snF e | cases e); rw [kC.data.1, hdC] at d; (first | exact nsF d | exact snF d | obtain rfl := Option.some.inj d | cases d)
  obtain ⟨J2, tk⟩ := J.hi.off hs' cR cB cH cF hT
  obtain ⟨mv', hn', hm'⟩ := J.locs
  refine wpAny_pure (wpAny_pure ⟨.next, _, _, q, rfl, { J with hi := J2, locs := ⟨mv', hn'.sameBut hs' (Ne.symm cL), fun x p z b => let ⟨v, q, d⟩ := hm' x p z b; ⟨v, q, d.keeps tk⟩⟩, cels := fun x hx => ?_, celH := fun x b e => ?_ }, (e'.trans e2).trans Same.heap⟩)
  · refine opq fun Gq hGq => ?_
    obtain ⟨b, v, z1, z2, z3⟩ := J.cels x hx
    refine hGq ?_
    exact ⟨b, v, z1, z2.sameBut hs' (cC x b z1), fun p hp => let ⟨w, q, d⟩ := z3 p hp; ⟨w, q, d.keeps tk⟩⟩
  · obtain ⟨z1, v, z2⟩ := J.celH x b e
    exact ⟨z1, v, z2.sameBut hs' (cC x b e)⟩
end
end Mine
end
section
open PySem PySem.Calls PyProof.Rows
namespace Mine
noncomputable abbrev rvo (x left : Int) : Obj := { cls := .type "range_iterator", dict := none, data := .fields #[rawInt x, rawInt left, rawInt (-1)], slots := #[] }
theorem sub_ri_reversed : isSubtype (.type "range_iterator") (.type "reversed") = pure false := by rw [isSubtype_type]; kernel_rfl
section
variable {prog : Program} {w : World} {A : Around} {E : Value → Shared → Prop} {s : Shared}
theorem call_range_reversed {r : Addr} {n : Nat} {t u v : Tok} {Q : Value → Shared → Prop} (hr : IsRange s.heap r 0 n 1 t u v) (hn : n < 1000)
    (h : Q (.ref s.heap.objs.size) { s with heap := s.heap.push (rvo ((n : Int) - 1) n) }) : wpAny (model prog w) A (call (.builtin "range.__reversed__") [.ref r]) Q E s := by
  have hT : s.TypeIs (.ref r) "range" := ⟨_, hr, rfl⟩
  refine wpAny_call_entry F.slot_range_reversed hT F.entry_range_reversed ?_ (F.args_range_reversed_1 _)
  have hrs : Builtin.Range.rangeSize 0 n 1 = (n : Int) := by rw [rangeSize_of]; simp
  have fits : ∀ x : Int, -10000000 < x → x < 10000000 → Builtin.Range.rangeFitsLong x = true := fun x a b => by
    unfold Builtin.Range.rangeFitsLong
    simp only [Bool.and_eq_true, decide_eq_true_eq]
    with_reducible exact br3 (by assumption) (by assumption)
  have f1 := fits 0 (by decide) (by decide)
  have f2 := fits n (by with_reducible exact br10 (by assumption)) (by with_reducible exact br9 (by assumption))
  have f3 := fits 1 (by decide) (by decide)
  have f4 := fits (-1) (by decide) (by decide)
  have f5 := fits (0 - 1) (by decide) (by decide)
  have e1 : (0 : Int) + ((n : Int) - 1) * 1 = (n : Int) - 1 := by with_reducible exact mr1 _
  have sm : (Builtin.Range.rangeFitsLong 0 && Builtin.Range.rangeFitsLong n && Builtin.Range.rangeFitsLong 1 && Builtin.Range.rangeFitsLong (-1) && Builtin.Range.rangeFitsLong (0 - 1) && Builtin.Range.rangeFitsLong n) = true := by rw [f1, f2, f3, f4, f5]; rfl
  have rf : ∀ {Q' : Int × Int × Int → Shared → Prop} {E' : Value → Shared → Prop}, Q' (0, (n : Int), 1) s → wpAny (model prog w) A.in1 (Builtin.Range.rangeFields (.ref r)) Q' E' s := fun {Q' E'} hQ => by
    unfold Builtin.Range.rangeFields
    refine wpAny_bind (wpAny_field hr rfl (x := .int 0 t) rfl ?_)
    refine wpAny_bind (wpAny_of_eq (a := some 0) rfl ?_)
    refine wpAny_bind (wpAny_field hr rfl (x := .int n u) rfl ?_)
    refine wpAny_bind (wpAny_of_eq (a := some (n : Int)) rfl ?_)
    refine wpAny_bind (wpAny_field hr rfl (x := .int 1 v) rfl ?_)
    exact wpAny_bind (wpAny_of_eq (a := some 1) rfl (wpAny_pure hQ))
  unfold Builtin.«range.__reversed__»
  refine wpAny_bind (wpAny_of_eq (a := Value.ref r) rfl ?_)
  refine wpAny_bind (rf ?_)
  dsimp only
  rw [hrs, sm]
  simp only [Bool.not_true, Bool.false_eq_true, if_false, if_true]
  rw [e1]
  exact wpAny_bind (wpAny_newObj_type (wpAny_pure ⟨_, rfl, h⟩))
theorem call_reversed_range {r : Addr} {n : Nat} {t u v : Tok} {Q : Value → Shared → Prop} (hr : IsRange s.heap r 0 n 1 t u v) (hn : n < 1000)
    (h : Q (.ref s.heap.objs.size) { s with heap := s.heap.push (rvo ((n : Int) - 1) n) }) : wpAny (model prog w) A (call (.type "reversed") [.ref r]) Q E s := by
  have hT : s.TypeIs (.ref r) "range" := ⟨_, hr, rfl⟩
  have hcode : ∀ {A' : Around} {Q₁ : Value → Shared → Prop} {E' : Value → Shared → Prop}, Q₁ (.ref s.heap.objs.size) { s with heap := s.heap.push (rvo ((n : Int) - 1) n) } → codeAny (model prog w) A' (.call (.builtin "reversed.__new__") ⟨[.type "reversed", .ref r], []⟩) (wants Q₁ E') s := fun {A' Q₁ E'} h => by
    refine codeAny_of_tree ?_
    show wpAny _ A'.in1 (do checkBuiltinCall "reversed.__new__" ⟨[.type "reversed", .ref r], []⟩; again (.builtin "reversed.__new__" ⟨[.type "reversed", .ref r], []⟩)) _ _ s
    refine wpAny_bind (wpAny_of_eq (F.newCall_reversed_1 _) (wpAny_pure ⟨plainId_quiet F.plain_reversed_new _, codeAny_builtin F.entry_reversed_new ?_⟩))
    rw [Around.under_plainId F.plain_reversed_new _]
    unfold Builtin.«reversed.__new__»
    refine wpAny_bind (wpAny_of_eq (newClass_reversed _) ?_)
    try dsimp only
    refine wpAny_bind (wpAny_of_eq (a := ()) (by first | rfl | kernel_rfl) ?_)
    refine wpAny_bind (wpAny_of_eq (a := ()) (by first | rfl | kernel_rfl) ?_)
    try dsimp only
    refine wpAny_bind (wpAny_specialOf hT F.slot_range_reversed.lookup ?_)
    try dsimp only
    refine wpAny_bind (wpAny_of_eq (F.slot_range_reversed.bind _) ?_)
    try dsimp only
    first
    | rw [if_neg (show ¬ ((Value.builtin "range.__reversed__" == Value.none) = true) from Bool.false_ne_true)]
    | (show wpAny _ _ (if (Value.builtin "range.__reversed__" == Value.none) = true then _ else _) _ _ _; rw [if_neg (show ¬ ((Value.builtin "range.__reversed__" == Value.none) = true) from Bool.false_ne_true)])
    refine wpAny_bind (wpAny_rule ?_)
    refine wpAny_bind (m := runValue (.call (.builtin "range.__reversed__") ⟨[.ref r], []⟩)) (show wpAny _ _ (call (.builtin "range.__reversed__") [.ref r]) _ _ _ from call_range_reversed hr hn ?_)
    first
    | exact wpAny_pure h
    | exact wpAny_bind (wpAny_pure (wpAny_pure h))
  refine callType_other (U := "range_iterator") (Q₁ := fun obj s₁ => obj = .ref s.heap.objs.size ∧ s₁ = { s with heap := s.heap.push (rvo ((n : Int) - 1) n) }) (by decide +kernel) F.create_reversed ⟨_, _, F.mro_reversed⟩ F.made_reversed sub_ri_reversed (F.typeCall_reversed_1 _) (hcode ⟨rfl, rfl⟩) ?_
  rintro obj s₁ ⟨rfl, rfl⟩
  exact ⟨⟨_, Heap.get?_push_size _ rfl, rfl⟩, h⟩
end
section
variable {g : G} {n : Nat} {H : HF} {Q : PV → HF → Prop}
theorem calls_reversed {r : Addr} {k : Nat} (hH : H r = some (.range 0 k)) (hk : k < 1000) (h : ∀ a, H a = none → Q (.ref a) (H.set a (.obj (rvo ((k : Int) - 1) k)))) : Calls g n (.type "reversed") [.ref r] [] H Q := fun fv vvs kvs => Op.mk fun A Fs R s E rr I d => by
  refine opq fun Gq hGq => ?_
  obtain ⟨rfl, ⟨_, _, rfl, rfl, rfl⟩, rfl⟩ := d
  obtain ⟨_, _, o, ho, t, u, v, rfl⟩ := I.mine r _ hH
  refine hGq ?_
  refine call_reversed_range ho hk ?_
  exact ⟨_, _, h _ I.sizeH, rfl, I.alloc (x := .obj (rvo ((k : Int) - 1) k)) ⟨rfl, fun q => absurd q.1 (by simp)⟩ rfl, Same.heap⟩
/-- an iterator that is ours -/
structure Nx (g : G) (it : Addr) (items : List PV) (X : Nat → AO) (Ok : HF → Prop) : Prop where
  self : ∀ {A : Around} {Fs : List Addr} {R : RF} {H : HF} {s : Shared} {E K : Value → Shared → Prop} {i : Nat}, HI g Fs R H s.heap → H it = some (X i) → K (.ref it) s → wpAny (model g.prog g.w) A (pyIter (.ref it)) K E s
  next : ∀ {A : Around} {Fs : List Addr} {R : RF} {H : HF} {s : Shared} {E : Value → Shared → Prop} {K : Option Value → Shared → Prop} {i : Nat}, A.handled = none → HI g Fs R H s.heap → H it = some (X i) → Ok H →
    (∀ p v h' tk, items[i]? = some p → Den h' p v → HI g Fs R (H.set it (X (i + 1))) h' → K (some v) { s with heap := h', toks := tk }) → (∀ h', items[i]? = none → HI g Fs R (H.del it) h' → K none { s with heap := h' }) → wpAny (model g.prog g.w) A (pyNext (.ref it)) K E s
theorem nx_list {it l : Addr} {xs : List PV} (k : Nat) : Nx g it (xs.drop k) (fun i => .liter l (k + i)) (fun H => H l = some (.list xs)) where
  self := fun {A Fs R H s E K i} I hI h => by
    refine opq fun Gq hGq => ?_
    obtain ⟨_, _, o, ho, h1, h2⟩ := I.mine it _ hI
    refine hGq ?_
    exact wpAny_pyIter_listiter ⟨o, ho, h1, h2⟩ h
  next := fun {A Fs R H s E K i} hh I hI hl h1 h2 => by
    cases e : xs[k + i]? with
    | none => exact liter_end hh I hI hl e fun h' J => h2 h' (by rw [List.getElem?_drop]; exact e) J
    | some p => exact liter_item I hI hl e fun v h' d J tk => h1 p v h' s.toks (by rw [List.getElem?_drop]; exact e) d J
theorem nx_rev {it : Addr} {k : Nat} : Nx g it ((List.range k).map fun (i : Nat) => PV.int ((k : Int) - 1 - (i : Int))) (fun i => .obj (rvo ((k : Int) - 1 - i) ((k : Int) - i))) (fun _ => True) where
  self := fun {A Fs R H s E K i} I hI h => by
    refine opq fun Gq hGq => ?_
    obtain ⟨_, _, o, ho, rfl, _⟩ := I.mine it _ hI
    refine hGq ?_
    exact wpAny_pyIter_rangeiter ho h
  next := fun {A Fs R H s E K i} hh I hI hl h1 h2 => by
    refine opq fun Gq hGq => ?_
    obtain ⟨_, _, o, ho, rfl, _⟩ := I.mine it _ hI
    refine hGq ?_
    have ho' : IsRangeIter s.heap it ((k : Int) - 1 - i) ((k : Int) - i) (-1) := ho
    rcases Nat.lt_or_ge i k with z | z
    · refine wpAny_pyNext_range_item ho' (by with_reducible exact zl1 (by assumption)) fun h' k1 k2 => ?_
      refine h1 (.int ((k : Int) - 1 - i)) _ h' _ (by simp [z]) ⟨_, rfl⟩ (I.upd hI k2 k1 ⟨?_, fun q => absurd q.1 (by simp)⟩)
      have e1 : ((k : Int) - 1 - i + -1) = (k : Int) - 1 - ((i + 1 : Nat) : Int) := by with_reducible exact zl5
      have e2 : ((k : Int) - i - 1) = (k : Int) - ((i + 1 : Nat) : Int) := by with_reducible exact ix6
      rw [e1, e2]
    · exact wpAny_pyNext_range_end hh ho' (by with_reducible exact zl3 (by assumption)) fun h' q => h2 h' (by simp; with_reducible assumption) (I.delExt hI q)
end
section
variable {c : Cx} {m : Vars} {H : HF}
inductive FH {σ : Type} (c : Cx) (env : Env) (Fs : List Addr) (R : RF) (Mv : σ → Vars) (Hh : σ → HF) (S : Nat → σ → Prop) (len : Nat) (s : Shared) (n : Nat) (s' : Shared) : Prop
  | mk (i : Nat) (st : σ) (hn : n = len + 1 - i) (hle : i ≤ len) (hS : S i st) (I : Inv c env Fs R (Mv st) (Hh st) s'.heap) (e : Same s s')
theorem EvS_ForH {σ : Type} (Mv : σ → Vars) (Hh : Addr → σ → HF) (S : Addr → Nat → σ → Prop) {x : Str} {px : Pos} {iter : Expr} {b o : List Stmt} {pos : Pos} {Q : Fl → Vars → HF → Prop} (hns : notSet iter = true)
    (hi : EvE c iter m H fun v H1 => ∃ it items X Ok, v = .ref it ∧ Nx c.g it items X Ok ∧ H1 it = some (X 0) ∧ (∃ st, S it 0 st ∧ Vars.Le (Mv st) m ∧ (Hh it st).Le H1) ∧
      ∀ i st, S it i st → (Hh it st) it = some (X i) ∧ Ok (Hh it st) ∧ (∀ p, items[i]? = some p → EvA c (.Name x px) p (Mv st) ((Hh it st).set it (X (i + 1))) fun m1 H2 => EvSs c b m1 H2 (TurnEnd Mv (Hh it) (S it (i + 1)) Q)) ∧ (items[i]? = none → EvSs c o (Mv st) ((Hh it st).del it) Q)) :
    EvS c (.For (.Name x px) iter b o pos) m H Q := by
  refine EvM.mk fun A env Fs R s E r eo I => wpAny_For ?_ (folded_not hns env)
  refine EvE.bd hi r eo I fun a s1 p1 H1 q1 d1 I1 e1 k1 => ?_
  refine opq fun Gq hGq => ?_
  obtain ⟨it, items, X, Ok, rfl, nx, hX, ⟨st, hS, hm, hH⟩, turn⟩ := q1
  cases d1
  refine hGq ?_
  refine nx.self I1.hi hX ?_
  refine codeAny_forLoop' (FH c env Fs R Mv (Hh it) (S it) items.length s) (fun n s2 hI => ?_) (items.length + 1) ⟨0, st, rfl, Nat.zero_le _, hS, I1.less hm hH, e1⟩
  clear hS hm hH
  refine opq fun Gq hGq => ?_
  obtain ⟨i, st, rfl, hle, hS, I3, e3⟩ := hI
  obtain ⟨t0, tk0, t2, t3⟩ := turn i st hS
  refine hGq ?_
  refine nx.next r.1 I3.hi.restR t0 tk0 (fun p v h' tk hx d2 J => ?_) fun h' hx J => ?_
  · obtain ⟨I4, k4⟩ := I3.back J
    refine wpAny_pure ?_
    refine AK.bd (t2 p hx A env Fs _ { s2 with heap := h', toks := tk } _ v r eo I4 d2) fun _ s4 m4 H4 q4 I5 e5 k5 => ?_
    refine EvM.bd q4 r eo I5 fun f s5 p5 m5 H5 q5 d5 I7 e7 k7 => ?_
    have e8 : Same s s5 := (e3.trans (Same.mk.trans e5)).trans e7
    have hlt : i < items.length := by
      rcases Nat.lt_or_ge i items.length with z | z
      · exact z
      · rw [List.getElem?_eq_none z] at hx; (first | exact nsF hx | exact snF hx | cases hx)
    have fin : (∃ st', S it (i + 1) st' ∧ Vars.Le (Mv st') m5 ∧ (Hh it st').Le H5) → ∃ k, k < items.length + 1 - i ∧ FH c env Fs R Mv (Hh it) (S it) items.length s k s5 :=
      fun ⟨st', z1, z2, z3⟩ => ⟨_, by with_reducible exact ns1 (by assumption), i + 1, st', rfl, hlt, z1, I7.less z2 z3, e8⟩
    cases p5 with
    | next => cases d5; exact fin q5
    | cont => cases d5; exact fin q5
    | brk => cases d5; exact ⟨.next, m5, H5, q5, rfl, I7, e8⟩
    | ret p => obtain ⟨w, rfl, d⟩ := d5; exact ⟨.ret p, m5, H5, q5, ⟨w, rfl, d⟩, I7, e8⟩
  · obtain ⟨I4, k4⟩ := I3.back J
    exact EvM.bd (t3 hx) r eo (s := { s2 with heap := h' }) I4 fun v s3 p3 m3 H3 q3 d3 I5 e5 k3 => ⟨p3, m3, H3, q3, d3, I5, (e3.trans Same.heap).trans e5⟩
end
/-- a call that is known for a part of the heap -/
noncomputable def joinH (H0' H0 H : HF) : HF := fun b => match H0' b with
  | some x => some x
  | none => match H0 b with
    | some _ => none
    | none => H b
open Classical in
theorem calls_frame {g : G} {n : Nat} {f : PV} {vs : List PV} {kw : List (Str × PV)} {H H0 : HF} {Q0 Q : PV → HF → Prop} (hle : H0.Le H) (hobj : ∀ b x, H0 b = none → H b = some x → ∀ o, x ≠ .obj o)
    (h : Calls g n f vs kw H0 Q0) (hQ : ∀ v H0', Q0 v H0' → (∀ b x, H0 b = none → H b = some x → H0' b = none) → ∃ H', H'.Le (joinH H0' H0 H) ∧ Q v H') : Calls g n f vs kw H Q := by
  intro fv vvs kvs
  refine Op.mk fun A Fs R s E r I p => ?_
  let R' : RF := fun b => if H0 b = none ∧ ∃ x, H b = some x then s.heap.get? b else R b
  have R'of : ∀ b x, H0 b = none → H b = some x → R' b = s.heap.get? b := fun b x e1 e2 => if_pos ⟨e1, x, e2⟩
  have R'no : ∀ b, (¬ (H0 b = none ∧ ∃ x, H b = some x)) → R' b = R b := fun b e => if_neg e
  have J0 : HI g Fs R' H0 s.heap := { I with
    rest := fun b o e => by
      by_cases q : H0 b = none ∧ ∃ x, H b = some x
      · obtain ⟨q1, x, q2⟩ := q
        rw [R'of b x q1 q2] at e; exact ⟨o, e, .rfl'⟩
      · rw [R'no b q] at e; exact I.rest b o e
    mine := fun a x e => by
      obtain ⟨p1, p2, p3⟩ := I.mine a x (hle a x e)
      exact ⟨p1, by rw [R'no a (fun q => by rw [q.1] at e; (first | exact nsF e | exact snF e | cases e))]; exact p2, p3⟩
    frs := fun L hL => by
      obtain ⟨p1, p2, p3⟩ := I.frs L hL
      refine ⟨p1, ?_, p3⟩
      cases e : H0 L with
      | none => rfl
      | some x => rw [hle L x e] at p2; (first | exact nsF p2 | exact snF p2 | cases p2) }
  refine Op.bd (h fv vvs kvs) r J0 p fun a s' v H0' q1 q2 J q4 tk => ?_
  have hnone : ∀ b x, H0 b = none → H b = some x → H0' b = none := fun b x e1 e2 => by
    cases e : H0' b with
    | none => rfl
    | some y =>
      obtain ⟨_, w2, _⟩ := J.mine b y e
      obtain ⟨_, _, o, w3, _⟩ := I.mine b x e2
      rw [R'of b x e1 e2, w3] at w2; (first | exact nsF w2 | exact snF w2 | cases w2)
  obtain ⟨H', z1, z2⟩ := hQ v H0' q1 hnone
  refine ⟨v, H', z2, q2, HI.less ?_ z1, q4⟩
  refine { J with
    rest := fun b o e => ?_
    mine := fun b x e => ?_
    frs := fun L hL => ?_ }
  · have hq : ¬ (H0 b = none ∧ ∃ x, H b = some x) := fun ⟨_, x, w⟩ => by
      obtain ⟨_, w2, _⟩ := I.mine b x w
      rw [w2] at e; (first | exact nsF e | exact snF e | cases e)
    exact J.rest b o (by rw [R'no b hq]; exact e)
  · unfold joinH at e
    cases e0 : H0' b with
    | some y =>
      rw [e0] at e; (first | exact nsF e | exact snF e | cases e)
      obtain ⟨w1, w2, w3⟩ := J.mine b _ e0
      refine ⟨w1, ?_, w3⟩
      by_cases q : H0 b = none ∧ ∃ x, H b = some x
      · obtain ⟨q1', x', q2'⟩ := q
        exact (I.mine b x' q2').2.1
      · rw [R'no b q] at w2; exact w2
    | none =>
      rw [e0] at e
      cases e1 : H0 b with
      | some y => rw [e1] at e; (first | exact nsF e | exact snF e | cases e)
      | none =>
        rw [e1] at e
        dsimp only at e
        refine opq fun Gq hGq => ?_
        obtain ⟨w1, w2, o, w3, w4⟩ := I.mine b x e
        obtain ⟨o', w5, w6⟩ := J.rest b o (by rw [R'of b x e1 e]; exact w3)
        have ho : o' = o := w6.of_not fun es ep d => by
          cases x with
          | list xs => obtain ⟨vs, n, rfl, _⟩ := w4; cases d
          | rlist xs => obtain ⟨_, vs, n, d', _⟩ := w4; rw [d'] at d; cases d
          | range lo hi => obtain ⟨_, _, _, rfl⟩ := w4; cases d
          | biter b i => obtain ⟨_, rfl⟩ := w4; cases d
          | liter l i => rw [w4.2] at d; (first | exact nsF d | exact snF d | cases d)
          | plain => exact w4.2 _ _ d
          | obj z => exact hobj b _ e1 e z rfl
        subst ho
        refine hGq ?_
        exact ⟨w1, w2, o', w5, w4.keeps tk⟩
  · refine opq fun Gq hGq => ?_
    obtain ⟨p1, p2, p3⟩ := J.frs L hL
    obtain ⟨_, p4, _⟩ := I.frs L hL
    refine hGq ?_
    refine ⟨p1, ?_, p3⟩
    unfold joinH
    rw [p2]
    cases H0 L with
    | none => exact p4
    | some y => rfl
end Mine
end
section
open PySem PySem.Calls PyProof.Rows
namespace Mine
section
variable {c : Cx} {m : Vars} {H : HF}
/-- a try whose suite raises nothing -/
theorem EvS_TryE {body orelse : List Stmt} {h0 : ExceptHandler} {hs : List ExceptHandler} {pos : Pos} {Q : Fl → Vars → HF → Prop} (h : EvSs c body m H (Then c orelse Q)) : EvS c (.Try body (h0 :: hs) orelse [] pos) m H Q := by
  refine EvM.mk fun A env Fs R s E r eo I => wpAny_Try_except ?_
  refine EvM.bd h r eo I fun a s1 f m1 H1 q1 d1 I1 e1 k1 => ?_
  cases f with
  | next =>
    cases d1
    exact EvM.bd q1 r eo I1 fun v s3 p3 m3 H3 q3 d3 I3 e3 k3 => ⟨p3, m3, H3, q3, d3, I3, e1.trans e3⟩
  | brk => cases d1; exact ⟨.brk, m1, H1, q1, rfl, I1, e1⟩
  | cont => cases d1; exact ⟨.cont, m1, H1, q1, rfl, I1, e1⟩
  | ret v => obtain ⟨w, rfl, d⟩ := d1; exact ⟨.ret v, m1, H1, q1, ⟨w, rfl, d⟩, I1, e1⟩
theorem meth_sort {Q : PV → HF → Prop} {o : Expr} {apos pos : Pos} {args : List Expr} (hok : methOK o apos pos args = true)
    (h : EvE c o m H fun ov H1 => ∃ a xs, ov = .ref a ∧ H1 a = some (.list xs) ∧ EvL c pos args m H1 fun vs H2 => Calls c.g c.n (.builtin "list.sort") (ov :: vs) [] H2 Q) : EvE c (.Call (.Attribute o (Str.ofString "sort") apos) args [] pos) m H Q :=
  meth_of (by decide +kernel) slot_list_sort (by kernel_rfl) hok h
end
section
variable {g : G} {fd : FuncData} {K : PySem.W.Frag}
theorem binds2k {x y z : Str} {p q r : PV} (X : K.In g.h₀) (h : ∀ a b c S, PySem.W.peek K S (bindArgs fd ⟨[a, b], [(z, c)]⟩) = some [(x, a), (y, b), (z, c)]) : Binds g fd [p, q] [(z, r)] [(x, p), (y, q), (z, r)] := by
  refine mkBinds X (fun vvs kvs => [x, y, z].zip (vvs ++ kvs)) fun s vvs kvs d1 d2 => ?_
  refine opq fun Gq hGq => ?_
  obtain ⟨_, _, rfl, q1, _, _, rfl, q2, rfl⟩ := d1
  obtain ⟨_, _, rfl, q3, rfl⟩ := d2
  refine hGq ?_
  exact ⟨h _ _ _, rfl, _, _, rfl, q1, _, _, rfl, q2, _, _, rfl, q3, rfl⟩
end
end Mine
end
section
open PySem PySem.Calls PyProof.Rows
namespace Mine
/-- a statement `o.append(f(..))` that raises, as f does -/
theorem raise_expr_meth {c : Cx} {m : Vars} {H : HF} {X : HF → Prop} {T : String} {o : Expr} {apos pos epos cpos xp : Pos} {x : Str} {args : List Expr} {rest : List Stmt} (hok : methOK o apos pos [.Call (.Name x xp) args [] cpos] = true) (ha : args.all (fun e => !isStar e) = true)
    (h : EvE c o m H fun ov H1 => ∃ a xs, ov = .ref a ∧ H1 a = some (.list xs) ∧ EvE c (.Name x xp) m H1 fun f H2 => EvL c cpos args m H2 fun vs H3 => Callee c.g f ∧ RaiseC c.g c.n f vs H3 X T) :
    RaiseSs c (.Expr (.Call (.Attribute o (Str.ofString "append") apos) [.Call (.Name x xp) args [] cpos] [] pos) epos :: rest) m H X T := by
  intro A env l Fs R s E Q r eo hfr I hE
  unfold methOK at hok
  simp only [Bool.and_eq_true] at hok
  obtain ⟨⟨⟨ha', ho⟩, hl⟩, hlen⟩ := hok
  have hi : interactive env = false := by
    unfold interactive; rw [eo.scope, eo.kind]; rfl
  refine wpAny_execs_cons ?_
  rw [exec_Expr env _ epos hi (swaps_not rfl _ _ _)]
  refine wpAny_bind (wpAny_standAt (wpAny_bind ?_))
  have hfew : ((backTo pos (starEach [.Call (.Name x xp) args [] cpos] env)).all (fun x => !x.1) && (backToKw pos (keywordEach [] env)).all (fun x => x.1.isSome)
      && decide ([(Expr.Call (.Name x xp) args [] cpos)].length + ([] : List Keyword).length + (if ([] : List Keyword).isEmpty then 0 else 1) < 30)) = true := by
    rw [(noStars pos env ha').2]
    rfl
  refine wpAny_Call_method (T := "list") (id := "list.append") (base_not ho _ env) hfew hl F.plainAttrs_list PySem.F.slot_list_append (by kernel_rfl) ?_
  refine EvE.bd h r eo I fun ov s1 p1 H1 xq7 d1 I1 e1 k1 => ?_
  refine opq fun Gq hGq => ?_
  obtain ⟨a, xs, e, hH, q1⟩ := xq7
  subst e
  cases d1
  obtain ⟨_, _, ob, hob, vs, n, rfl, _⟩ := I1.hi.mine a _ hH
  refine hGq ?_
  refine ⟨⟨_, hob, rfl⟩, fun b q => ?_, ?_⟩
  · cases q; exact ⟨_, hob, rfl⟩
  · refine callWith_any (ps := []) (kws := []) ha' rfl rfl ?_
    refine wpAny_items_cons ?_ (star_of rfl [] env)
    refine wpAny_mono (raise_call (Q := fun _ _ => False) (Z := fun f vs H2 => RaiseC c.g c.n f vs H2 X T) ha r eo I1 q1 fun f vs H2 fv vvs s2 hz d1 d2 J es => ?_) (fun _ _ q => q.elim) fun _ _ x => x
    refine hz A l Fs (restR H2 s2.heap) s2 _ _ fv vvs r hfr J.hi.restR d1 d2 fun v s3 hF => ?_
    refine opq fun Gq hGq => ?_
    obtain ⟨e, a0, H', D, h1, rfl, hX, B, fl, up, e3, _⟩ := hF
    obtain ⟨J1, tk⟩ := J.back B.hi
    refine hGq ?_
    exact hE _ _ ⟨e, a0, H', D, h1, rfl, hX, J1, ⟨J1.hi, B.fr⟩, fl, up, (e1.trans es).trans e3⟩
end Mine
end
section
open PySem PySem.Calls PyProof.Rows
namespace Mine
section
variable {g : G} {n : Nat} {H : HF} {Q : PV → HF → Prop}
/-- an item of a dict keyed by ints -/
noncomputable def DM (o : Obj) (f : Int → Option Value) : Prop := ∃ es ep, o.cls = .type "dict" ∧ o.data = .dict es ep ∧ IntKeys es ∧ ∀ k, findBy Value.isInt es k = f k
theorem DM.map {o : Obj} {f : Int → Option Value} (d : DM o f) {h : Heap} {a : Addr} (ho : h.get? a = some o) : h.IntMap a f := let ⟨es, ep, r⟩ := d; ⟨o, es, ep, ho, r⟩
theorem sub_dict {v i : Expr} {d : Addr} {o : Obj} {f : Int → Option Value} {k x : Int} {tk : Tok} (hs : notSlice i = true) (hH : H d = some (.obj o)) (hd : DM o f) (hf : f k = some (.int x tk)) (h : Q (.int x) H) : SubO g n v i (.ref d) (.int k) H Q := fun vo vi => Op.mk fun A Fs R s E r I dd => by
  refine opq fun Gq hGq => ?_
  obtain ⟨rfl, ⟨t, rfl⟩⟩ := dd
  obtain ⟨_, _, o', ho, rfl, _⟩ := I.mine d _ hH
  refine hGq ?_
  have hm := hd.map ho
  exact tail_any hm.typeIs slot_dict_getitem.lookup (wpAny_getItem_intMap hm hf ⟨_, H, h, ⟨tk, rfl⟩, I, Same.toks⟩) (subs_of hs _ _)
end
section
variable {c : Cx} {m : Vars} {H : HF}
theorem bindName_as {A : Around} {env : Env} {x : Str} {w : Value} {M : Model} {K : Unit → Shared → Prop} {E : Value → Shared → Prop} {s : Shared} (h : wpAny M A (storeName env x w) K E s) : wpAny M A (bindName env x w) K E s := by
  unfold bindName
  exact wpAny_bind (wpAny_holding (wpAny_point (wpAny_bind (wpAny_mono h (fun _ s1 h1 => wpAny_point h1) fun _ _ x => x))))
theorem EvS_AssignSwap3 {x y z : Str} {ts : List Expr} {k : Nat} {tp : Pos} {value : Expr} {pos : Pos} {Q : Fl → Vars → HF → Prop} (hsw : ∀ env, env.scope = c.sc → swapsWithSole [.Tuple ts k tp] value pos.line env = pure false)
    (hnt : ∀ env, env.scope = c.sc → swappedStores [.Tuple ts k tp] value env = pure (some [x, y, z])) (hx : stoOK c x = true) (hy : stoOK c y = true) (hz : stoOK c z = true)
    (h : EvE c value m H fun v H1 => ∃ p q r, v = .tup [p, q, r] ∧ Q .next ((x, p) :: (y, q) :: (z, r) :: m) H1) : EvS c (.Assign [.Tuple ts k tp] value pos) m H Q := by
  refine EvM.mk fun A env Fs R s E r eo I => ?_
  rw [arm_exec_Assign, hsw env eo.scope]
  refine wpAny_bind (wpAny_standAt (wpAny_bind (wpAny_pure ?_)))
  simp only [Bool.false_eq_true, if_false]
  refine wpAny_bind (EvE.bd h r eo I fun a s1 p1 H1 xq8 d1 I1 e1 k1 => ?_)
  refine opq fun Gq hGq => ?_
  obtain ⟨p, q, w, e0, q1⟩ := xq8
  subst e0
  refine hGq ?_
  rw [hnt env eo.scope]
  refine wpAny_bind (wpAny_pure ?_)
  refine opq fun Gq hGq => ?_
  obtain ⟨b, vs, rfl, g2, v1, _, ev1, dp, v2, _, rfl, dq, v3, _, rfl, dw, rfl⟩ := d1
  refine hGq ?_
  have hvs : vs.size = 3 := by rw [← Array.length_toList, ev1]; rfl
  show wpAny _ A (do rule "assign.swapped-stores"; let items ← unpackItems (.ref b) 3 none; assignInOrder [bindName env z, bindName env y, bindName env x] items.reverse; pure Flow.next) _ E s1
  refine wpAny_bind (wpAny_rule ?_)
  rw [← hvs]
  refine wpAny_bind (wpAny_unpackItems_tuple r.1 ⟨_, g2, rfl, 0, rfl⟩ fun h' kx => ?_)
  have kx := extBut_ext kx
  rw [ev1]
  show wpAny _ A (do (do holding [v2, v1] (bindName env z v3); (do holding [v1] (bindName env y v2); (do holding [] (bindName env x v1); pure ()))); pure Flow.next) _ E _
  have I2 := I1.ext kx
  refine wpAny_bind (wpAny_bind (wpAny_holding (bindName_as (wpAny_mono (sto (p := w) (s := { s1 with heap := h' }) hz eo I2 (dw.keeps kx.tup)) (fun _ s3 xq9 => ?_) fun _ _ x => x))))
  obtain ⟨I3, e3, k3⟩ := xq9
  refine wpAny_bind (wpAny_holding (bindName_as (wpAny_mono (sto (p := q) hy eo I3 ((dq.keeps kx.tup).keeps k3)) (fun _ s4 xq10 => ?_) fun _ _ x => x)))
  obtain ⟨I4, e4, k4⟩ := xq10
  refine wpAny_bind (wpAny_holding (bindName_as (wpAny_mono (sto (p := p) hx eo I4 (((dp.keeps kx.tup).keeps k3).keeps k4)) (fun _ s5 xq11 => ?_) fun _ _ x => x)))
  obtain ⟨I5, e5, k5⟩ := xq11
  exact wpAny_pure (wpAny_pure ⟨.next, _, H1, q1, rfl, I5, ((e1.trans Same.heap).trans e3).trans (e4.trans e5)⟩)
end
end Mine
end
section
open PySem PySem.Calls PyProof.Rows
namespace Mine
theorem twice {P R : Prop} (k : P → R) (h : P) : R := k h
section
variable {c : Cx} {m : Vars} {H : HF}
theorem Inv.adoptObj {env : Env} {Fs : List Addr} {R : RF} {h : Heap} {a : Addr} {oa : Obj} (I : Inv c env Fs (R.put a oa) m H h) (ho : h.get? a = some oa) (hR : R a = none) (hB : c.g.h₀.get? a = none) (hL : env.locals ≠ a) (hF : ∀ L ∈ Fs, L ≠ a) (hc : ∀ v, oa.data ≠ .cell v) (ht : ¬ (oa.cls = .type "tuple" ∧ ∃ vs n, oa.data = .seq vs n)) :
    Inv c env Fs R m (H.set a (.obj oa)) h := by
  have cell : ∀ b v, h.IsCell b v → b ≠ a := fun b v ⟨oc, e1, e2⟩ z => by rw [z, ho] at e1; (first | exact nsF e1 | exact snF e1 | cases e1); exact hc _ e2
  have kR : ∀ b, b ≠ a → (R.put a oa) b = R b := fun b hb => RF.put_other hb
  exact { I with
    hi := {
      base := I.hi.base
      rest := fun b o e => I.hi.rest b o (by rw [kR b (fun w => by rw [w, hR] at e; (first | exact nsF e | exact snF e | cases e))]; exact e)
      mine := fun b x e => by
        by_cases hb : b = a
        · obtain rfl := Eq.symm hb; rw [HF.set_self] at e; (first | exact nsF e | exact snF e | obtain rfl := Option.some.inj e | cases e); exact ⟨hB, hR, oa, ho, rfl, ht⟩
        · rw [HF.set_other hb] at e
          obtain ⟨p, q, r⟩ := I.hi.mine b x e
          rw [kR b hb] at q
          exact ⟨p, q, r⟩
      frs := fun L hL' => by
        obtain ⟨p, q, r⟩ := I.hi.frs L hL'
        exact ⟨p, by rw [HF.set_other (hF L hL')]; exact q, r⟩ }
    locR := by have := I.locR; rw [kR _ hL] at this; exact this
    locH := by rw [HF.set_other hL]; exact I.locH
    celH := fun x b e => by
      obtain ⟨q, v, r⟩ := I.celH x b e
      exact ⟨by rw [HF.set_other (cell b v r)]; exact q, v, r⟩
    own := fun x hx ho' => by
      refine opq fun Gq hGq => ?_
      obtain ⟨b, e1, e2, e3, e4⟩ := I.own x hx ho'
      obtain ⟨b', v, p1, p2, _⟩ := I.cels x (.inl hx)
      refine hGq ?_
      rw [e1] at p1; (first | exact nsF p1 | exact snF p1 | cases p1)
      rw [kR b (cell b v p2)] at e2
      exact ⟨b, e1, e2, e3, e4⟩ }
theorem EvS_AssignDict {x kn : Str} {px kp : Pos} {kx vx iter : Expr} {scope : Scope} {cpos pos : Pos} {Q : Fl → Vars → HF → Prop} (key val : Nat → Nat) (n : Nat) (m0 : Vars)
    (hsw : ∀ env, env.scope = c.sc → swapsWithSole [.Name x px] (.DictComp kx vx [⟨.Name kn kp, iter, [], 0⟩] scope cpos) pos.line env = pure true) (hk : kindIn c x = some .local)
    (hok : compOK scope c.sc = true) (hns : notSet iter = true) (hm : compVars scope m = m0) (hinj : ∀ i j, i < n → j < n → key i = key j → i = j) (hn : n < 1000)
    (h : EvE c iter m H fun v H1 => ∃ rg, v = .ref rg ∧ H1 rg = some (.range 0 n) ∧
      (∀ i, i < n → ∀ d o, H1 d = none → EvA (compCx c scope) (.Name kn kp) (.int (i : Nat)) m0 (H1.set d (.obj o)) fun m1 H2 => H2 = H1.set d (.obj o) ∧ Vars.Le m0 m1 ∧ EvE (compCx c scope) kx m1 (H1.set d (.obj o)) fun kv H3 => H3 = H1.set d (.obj o) ∧ kv = .int (key i : Nat) ∧ EvE (compCx c scope) vx m1 (H1.set d (.obj o)) fun vv H4 => H4 = H1.set d (.obj o) ∧ vv = .int (val i : Nat)) ∧
      ∀ d o f, H1 d = none → DM o f → (∀ i, i < n → ∃ tk, f (key i : Nat) = some (.int (val i : Nat) tk)) → Q .next ((x, .ref d) :: m) (H1.set d (.obj o))) :
    EvS c (.Assign [.Name x px] (.DictComp kx vx [⟨.Name kn kp, iter, [], 0⟩] scope cpos) pos) m H Q := by
  refine EvM.mk fun A env Fs R s E r eo I => ?_
  rw [arm_exec_Assign, hsw env eo.scope]
  refine wpAny_bind (wpAny_standAt (wpAny_bind (wpAny_pure ?_)))
  simp only [if_true]
  rw [arm_evalThenUse_DictComp]
  refine wpAny_bind (wpAny_bind ?_)
  obtain ⟨cl, hcl⟩ := closureFor_ok hok eo I
  have hks : scope.kind = .function := by
    unfold compOK at hok; rw [Bool.and_eq_true, Bool.and_eq_true] at hok; simpa using hok.1.1
  have hnm : ∀ x ∈ scope.names, x.2 = .local → scope.names.lookup x.1 = some .local := fun x hx e => by
    unfold compOK at hok; rw [Bool.and_eq_true, Bool.and_eq_true, List.all_eq_true] at hok
    have := hok.1.2 x hx; rw [e] at this; simpa using this
  refine wpAny_comprehension_free (g := ⟨.Name kn kp, iter, [], 0⟩) (gs := []) rfl (folded_not hns env) hcl hks hnm ?_
  refine EvE.bd h r eo I fun v s1 p1 H1 xq12 d1 I1 e1 k1 => ?_
  refine opq fun Gq hGq => ?_
  obtain ⟨rg, q1, q2, hstep, hQ⟩ := xq12
  obtain rfl := Eq.symm q1
  refine hGq ?_
  refine iter_start (src := .range rg 0 n) I1.hi ⟨q2, by with_reducible exact cs4 (by assumption)⟩ d1 fun o hIt hfo => ?_
  refine wpAny_newObj_type ?_
  have big : ∀ d, s1.heap.objs.size ≤ d → s1.heap.get? d = none := fun d hd => by
    cases q : s1.heap.get? d with
    | none => rfl
    | some z => exact absurd (Heap.lt_size q) (Nat.not_lt.mpr hd)
  have hBi := I1.hi.sizeB
  have hBa : c.g.h₀.get? (s1.heap.objs.size + 1) = none := by
    have := (I1.push (o := o)).hi.sizeB; rw [Heap.size_push] at this; exact this
  have hHi := I1.hi.sizeH
  have hHa : H1 (s1.heap.objs.size + 1) = none := by
    have := (I1.push (o := o)).hi.sizeH; rw [Heap.size_push] at this; exact this
  have hRi : restR H1 s1.heap s1.heap.objs.size = none := by rw [restR_of hHi, big _ (Nat.le_refl _)]
  have hRa : restR H1 s1.heap (s1.heap.objs.size + 1) = none := by rw [restR_of hHa, big _ (Nat.le_succ _)]
  have hlen : (Src.range rg 0 n).items.length = n := by show (rangeL 0 n).length = n; rw [rangeL_len]; with_reducible exact cs3
  obtain ⟨cl', hcl', run⟩ := comp_enter (E := E) (o := o) (oa := { cls := .type "dict", dict := none, data := .dict #[] }) (K := fun cenv s₄ =>
        codeAny (model c.g.prog c.g.w) A (.compStart (.DictComp kx vx [⟨.Name kn kp, iter, [], 0⟩] scope cpos) 0 (.ref s1.heap.objs.size) (.ref (s1.heap.push o).objs.size) { cenv with scope := relabel scope env }) (compPost (model c.g.prog c.g.w) A E (some fun v => assignAll v ((assignEach [.Name x px] env).map (·.2))) (fun _ s' => wpAny (model c.g.prog c.g.w) A (pure ()) (fun _ s' => wpAny (model c.g.prog c.g.w) A (pure Flow.next) (MR c env Fs R s FlRel Q) E s') E s') (.ref (s1.heap.push o).objs.size) cenv.locals) s₄) hok eo I1 hfo rfl
    (fun cenv s5 eo5 I5 nF nH nR nB na nit e5 x5 x5' none5 => by
      rw [Heap.size_push]
      have hit : s5.heap.get? s1.heap.objs.size = some o := x5' _ _ (Heap.get?_push_of_some _ (Heap.get?_push_size _ hfo))
      have hga : s5.heap.get? (s1.heap.objs.size + 1) = some { cls := .type "dict", dict := none, data := .dict #[] } := x5' _ _ (by have := Heap.get?_push_size (s1.heap.push o) (o := { cls := .type "dict", dict := none, data := .dict #[] }) rfl; rw [Heap.size_push] at this; exact this)
      have hIt5 : ItAt s5.heap (.range rg 0 n) 0 o := (hIt.keeps (Ext.push _ _).tup).keeps x5'.tup
      have hia : s1.heap.objs.size ≠ s1.heap.objs.size + 1 := Nat.ne_of_lt (Nat.lt_succ_self _)
      rw [RF.put_comm (Ne.symm hia)] at I5
      have I6 := I5.adoptObj hga (by rw [RF.put_other (Ne.symm hia)]; exact hRa) hBa na (fun L hL => by
        obtain ⟨_, _, o9, _, _, e9, _⟩ := I1.hi.frs L hL
        exact Nat.ne_of_lt (Nat.lt_succ_of_lt (Heap.lt_size e9))) (fun v q => by cases q) (fun q => absurd q.1 (by simp))
      have run : codeAny (model c.g.prog c.g.w) A (.compLoop (.DictComp kx vx [⟨.Name kn kp, iter, [], 0⟩] scope cpos) 0 (.ref s1.heap.objs.size) (.ref (s1.heap.objs.size + 1)) { cenv with scope := relabel scope env }) (fun rr s' => match rr with
          | .ok _ => ∃ oa f, DM oa f ∧ (∀ i, i < n → ∃ tk, f (key i : Nat) = some (.int (val i : Nat) tk)) ∧ Inv (compCx c scope) { cenv with scope := relabel scope env } Fs (restR H1 s1.heap) m0 (H1.set (s1.heap.objs.size + 1) (.obj oa)) s'.heap ∧ Same s5 s'
          | .error _ => False) s5 := by
        refine codeAny_compLoop_testsD (fun k s' => ∃ i o oa f, k = n + 1 - i ∧ i ≤ n ∧ ItAt s'.heap (.range rg 0 n) i o ∧ DM oa f ∧ s'.heap.DictLe (s1.heap.objs.size + 1) i ∧ (∀ j, j < i → ∃ tk, f (key j : Nat) = some (.int (val j : Nat) tk)) ∧
          Inv (compCx c scope) { cenv with scope := relabel scope env } Fs ((restR H1 s1.heap).put s1.heap.objs.size o) m0 (H1.set (s1.heap.objs.size + 1) (.obj oa)) s'.heap ∧ Same s5 s') (fun k s2 hI => ?_) (n + 1)
          ⟨0, o, _, fun _ => none, rfl, Nat.zero_le _, hIt5, ⟨#[], 0, rfl, rfl, fun _ he => by simp at he, fun _ => rfl⟩, fun o' es ep q1 q2 => (by rw [hga] at q1; (first | exact nsF q1 | exact snF q1 | cases q1); (first | exact nsF q2 | exact snF q2 | obtain rfl := Option.some.inj q2 | cases q2); exact Nat.le_refl _), fun j hj => absurd hj (Nat.not_lt_zero _), by rw [← hm]; exact I6, Same.rfl'⟩ (fun _ => rfl)
        obtain ⟨i, o2, oa, f, rfl, hle, hIt2, hDM, hDL, hvals, I7, e7⟩ := hI
        obtain ⟨f1, f2, f3⟩ := iterFacts hIt2
        obtain ⟨o', ho', ko⟩ := I7.hi.rest _ _ (RF.put_self _ s1.heap.objs.size o2)
        have := ko.of_not f1; obtain rfl := Eq.symm this
        refine iter_next (src := .range rg 0 n) r.1 I7.hi trivial ho' hIt2 (fun p v h' tk o3 hx hs' ho3 hIt3 d3 => ?_) fun h' hx hs' => ?_
        · obtain ⟨hi, hp⟩ : i < n ∧ p = .int (i : Nat) := by
            have hx' : (rangeL 0 n)[i]? = some p := hx
            rw [rangeL_get] at hx'
            split at hx'
            · rename_i z; (first | exact nsF hx' | exact snF hx' | obtain rfl := Option.some.inj hx' | cases hx'); exact ⟨by with_reducible exact cs1 (by assumption), by simp⟩
            · (first | exact nsF hx' | exact snF hx' | obtain rfl := Option.some.inj hx' | cases hx')
          obtain rfl := Eq.symm hp
          obtain ⟨I8, k8⟩ := I7.rehide f1 f2 f3 hBi hs' ho3
          have hD8 : Heap.DictLe h' (s1.heap.objs.size + 1) i := hDL.sameBut hs' (Ne.symm hia)
          refine wpAny_mono (hstep i hi _ oa hHa A _ Fs _ { s2 with heap := h', toks := tk } _ v r eo5 I8 d3) (fun _ s4 xq14 => ?_) fun _ _ x => x
          obtain ⟨m4, H4, ⟨w1, w2, w3⟩, I9, e9, k9⟩ := xq14
          obtain rfl := Eq.symm w1
          refine tests_ok (c := compCx c scope) (ifs := []) (Q := fun b H' => b = true ∧ H' = H1.set (s1.heap.objs.size + 1) (.obj oa)) ⟨rfl, rfl⟩ r eo5 I9 fun ok s6 H6 xq15 I10 e10 k10 => ?_
          obtain ⟨q8, q9⟩ := xq15
          obtain rfl := Eq.symm q8; obtain rfl := Eq.symm q9
          rw [if_pos rfl]
          refine EvE.bd (c := compCx c scope) w3 r eo5 I10 fun kv s7 p7 H7 xq16 d7 I11 e11 k11 => ?_
          obtain ⟨u1, u2, u3⟩ := xq16
          obtain rfl := Eq.symm u1; obtain rfl := Eq.symm u2
          obtain ⟨kt, rfl⟩ := d7
          refine EvE.bd (c := compCx c scope) u3 r eo5 I11 fun vv s8 p8 H8 xq17 d8 I12 e12 k12 => ?_
          obtain ⟨u4, u5⟩ := xq17
          obtain rfl := Eq.symm u4; obtain rfl := Eq.symm u5
          obtain ⟨vt, rfl⟩ := d8
          have hHs : (H1.set (s1.heap.objs.size + 1) (.obj oa)) (s1.heap.objs.size + 1) = some (.obj oa) := HF.set_self ..
          obtain ⟨_, _, oa', hoa, rfl, _⟩ := I12.hi.mine _ _ hHs
          have hDL12 : s8.heap.DictLe (s1.heap.objs.size + 1) i := fun o' es ep q1 q2 => by
            rw [hoa] at q1; (first | exact nsF q1 | exact snF q1 | cases q1)
            obtain ⟨_, _, oa9, hoa9, rfl, _⟩ := I8.hi.mine _ _ hHs
            exact hD8 _ es ep hoa9 q2
          refine wpAny_dictSet_int_le (hDM.map hoa) hDL12 (by rw [sizeLine_eq]; with_reducible exact Nat.le_of_lt (Nat.lt_of_le_of_lt (by assumption) (Nat.lt_of_lt_of_le (by assumption) (by decide)))) fun h9 hm9 hl9 hs9 => ?_
          obtain ⟨on, es, ep, g1, g2, g3, g4, g5⟩ := hm9
          have I13 := I12.upd hHs hs9 g1 (y := .obj on) ⟨rfl, fun q => by rw [g2] at q; exact absurd q.1 (by simp)⟩
          rw [HF.set_set] at I13
          obtain ⟨o13, ho13, k13⟩ := I13.hi.rest _ _ (RF.put_self _ s1.heap.objs.size o3)
          refine ⟨n + 1 - (i + 1), by with_reducible exact ns1 (by assumption), i + 1, o3, on, _, rfl, hi, ?_, ⟨es, ep, g2, g3, g4, g5⟩, hl9, fun j hj => ?_, I13.vars w2, ?_⟩
          · exact hIt3
          · by_cases hji : j = i
            · obtain rfl := Eq.symm hji; exact ⟨vt, by rw [if_pos rfl]⟩
            · rw [if_neg (fun q => hji (hinj j i (by with_reducible exact ad10 (by assumption) (by assumption)) hi (by exact Int.ofNat.inj (by assumption))))]
              exact hvals j (by with_reducible exact Nat.lt_of_le_of_ne (Nat.le_of_lt_succ (by assumption)) (by assumption))
          · exact ((((e7.trans Same.mk).trans e9).trans e10).trans (e11.trans e12)).trans Same.mk
        · have hge : n ≤ i := by
            have hx' : (rangeL 0 n)[i]? = none := hx
            rw [rangeL_get] at hx'
            split at hx'
            · (first | exact nsF hx' | exact snF hx' | obtain rfl := Option.some.inj hx' | cases hx')
            · with_reducible exact cs2 (by assumption)
          have hin : i = n := by with_reducible exact Nat.le_antisymm (by assumption) (by assumption)
          obtain rfl := Eq.symm hin
          obtain ⟨I8, k8⟩ := I7.unhide hRi f1 f2 f3 hBi hs'
          exact ⟨oa, f, hDM, hvals, I8, e7.trans Same.heap⟩
      refine twice (fun fin => codeAny_compStart_dict (codeAny_mono run fin) (iter_self (src := .range rg 0 n) hit hIt5 _ _ (codeAny_mono run fin))) fun rr s7 h7 => ?_
      cases rr with
      | error x => exact h7.elim
      | ok f' =>
        obtain ⟨oa, f, hDM, hvals, I7, e7⟩ := h7
        obtain ⟨J', kt⟩ := Inv.back I1 I7.hi
        obtain ⟨mv, hn7, _⟩ := I7.locs
        have cH : (H1.set (s1.heap.objs.size + 1) (.obj oa)) cenv.locals = none := I7.locH
        have cR : R cenv.locals = none := by
          cases z : R cenv.locals with
          | none => rfl
          | some z' => obtain ⟨_, q, _⟩ := I1.hi.rest _ _ z; rw [none5] at q; (first | exact nsF q | exact snF q | obtain rfl := Option.some.inj q | cases q)
        have cL : cenv.locals ≠ env.locals := by
          obtain ⟨mv', hn', _⟩ := I1.locs
          obtain ⟨o', _, _, z, _⟩ := hn'
          intro w; rw [w, z] at none5; (first | exact nsF none5 | exact snF none5 | obtain rfl := Option.some.inj none5 | cases none5)
        have cC : ∀ x b, env.cells.lookup x = some b → b ≠ cenv.locals := fun x b e w => by
          obtain ⟨_, v, o', z, _⟩ := I1.celH x b e
          rw [w, none5] at z; (first | exact nsF z | exact snF z | cases z)
        show wpAny _ A (assign (.Name x px) env (.ref (s1.heap.objs.size + 1))) _ E s7
        obtain ⟨oC, es, ep, hoC, hdC, hrC⟩ := hn7
        refine wpAny_assign_Name ?_
        have hst : stoOK c x = true := by unfold stoOK; rw [hk]
        refine wpAny_mono (sto (p := .ref (s1.heap.objs.size + 1)) hst eo (J'.protect hoC cH cL cC) rfl) (fun _ s2 xq18 => ?_) fun _ _ x => x
        obtain ⟨J, e2, k2⟩ := xq18
        obtain ⟨J, hH, ⟨oC', hoC', kC⟩, hL⟩ := J.unprotect cR
        refine ⟨mv, ⟨oC', es, ep, hoC', kC.data.1.trans hdC, hrC⟩, fun h' hs' => ?_⟩
        have hT : ∀ o, s2.heap.get? cenv.locals = some o → ¬ TupO o := fun o e q => by
          obtain ⟨_, vs, n, d⟩ := q
          rw [hoC'] at e; (first | exact nsF e | exact snF e | cases e); rw [kC.data.1, hdC] at d; (first | exact nsF d | exact snF d | obtain rfl := Option.some.inj d | cases d)
        obtain ⟨J2, tk⟩ := J.hi.off hs' cR nB cH nF hT
        obtain ⟨mv', hn', hm'⟩ := J.locs
        refine wpAny_pure (wpAny_pure ⟨.next, _, _, hQ _ oa f hHa hDM hvals, rfl, { J with hi := J2, locs := ⟨mv', hn'.sameBut hs' (Ne.symm cL), fun x p z b => let ⟨v, q, d⟩ := hm' x p z b; ⟨v, q, d.keeps tk⟩⟩, cels := fun x hx => ?_, celH := fun x b e => ?_ }, ((e1.trans (e5.trans e7)).trans e2).trans Same.heap⟩)
        · obtain ⟨b, v, z1, z2, z3⟩ := J.cels x hx
          exact ⟨b, v, z1, z2.sameBut hs' (cC x b z1), fun p hp => let ⟨w, q, d⟩ := z3 p hp; ⟨w, q, d.keeps tk⟩⟩
        · obtain ⟨z1, v, z2⟩ := J.celH x b e
          exact ⟨z1, v, z2.sameBut hs' (cC x b e)⟩)
  rw [hcl] at hcl'
  have hcc : cl = cl' := by injection hcl'
  obtain rfl := Eq.symm hcc
  exact run
end
section
variable {g : G} {fd : FuncData} {K : PySem.W.Frag}
theorem binds4 {x y z w : Str} {p q r t : PV} (X : K.In g.h₀) (h : ∀ a b c d S, PySem.W.peek K S (bindArgs fd ⟨[a, b, c, d], []⟩) = some [(x, a), (y, b), (z, c), (w, d)]) : Binds g fd [p, q, r, t] [] [(x, p), (y, q), (z, r), (w, t)] := by
  refine mkBinds X (fun vvs _ => [x, y, z, w].zip vvs) fun s vvs kvs d1 d2 => ?_
  refine opq fun Gq hGq => ?_
  obtain ⟨_, _, rfl, q1, _, _, rfl, q2, _, _, rfl, q3, _, _, rfl, q4, rfl⟩ := d1
  refine hGq ?_
  rw [show kvs = [] from d2]
  exact ⟨h _ _ _ _, rfl, _, _, rfl, q1, _, _, rfl, q2, _, _, rfl, q3, _, _, rfl, q4, rfl⟩
theorem binds5 {x y z w v : Str} {p q r t u : PV} (X : K.In g.h₀) (h : ∀ a b c d e S, PySem.W.peek K S (bindArgs fd ⟨[a, b, c, d, e], []⟩) = some [(x, a), (y, b), (z, c), (w, d), (v, e)]) : Binds g fd [p, q, r, t, u] [] [(x, p), (y, q), (z, r), (w, t), (v, u)] := by
  refine mkBinds X (fun vvs _ => [x, y, z, w, v].zip vvs) fun s vvs kvs d1 d2 => ?_
  refine opq fun Gq hGq => ?_
  obtain ⟨_, _, rfl, q1, _, _, rfl, q2, _, _, rfl, q3, _, _, rfl, q4, _, _, rfl, q5, rfl⟩ := d1
  refine hGq ?_
  rw [show kvs = [] from d2]
  exact ⟨h _ _ _ _ _, rfl, _, _, rfl, q1, _, _, rfl, q2, _, _, rfl, q3, _, _, rfl, q4, _, _, rfl, q5, rfl⟩
end
end Mine
end
section
open PySem PySem.Calls PyProof.Rows
namespace Mine
section
noncomputable def b64tab : List UInt8 := [65, 66, 67, 68, 69, 70, 71, 72, 73, 74, 75, 76, 77, 78, 79, 80, 81, 82, 83, 84, 85, 86, 87, 88, 89, 90, 97, 98, 99, 100, 101, 102, 103, 104, 105, 106, 107, 108, 109, 110, 111, 112, 113, 114, 115, 116, 117, 118, 119, 120, 121, 122, 48, 49, 50, 51, 52, 53, 54, 55, 56, 57, 43, 47]
noncomputable def globs : Vars := [
  (Str.ofString "heappush", .ref 28),
  (Str.ofString "heappop", .ref 35),
  (Str.ofString "_heapreplace_max", .ref 42),
  (Str.ofString "_heapify_max", .ref 49),
  (Str.ofString "_siftdown", .ref 56),
  (Str.ofString "_siftup", .ref 63),
  (Str.ofString "_siftdown_max", .ref 70),
  (Str.ofString "_siftup_max", .ref 77),
  (Str.ofString "nsmallest", .ref 83),
  (Str.ofString "_bytes_from_decode_data", .ref 91),
  (Str.ofString "_ascii_buffer", .ref 111),
  (Str.ofString "_buffer", .ref 118),
  (Str.ofString "_truth", .ref 125),
  (Str.ofString "_b64_value", .ref 132),
  (Str.ofString "a2b_base64", .ref 140),
  (Str.ofString "b2a_base64", .ref 148),
  (Str.ofString "b64encode", .ref 156),
  (Str.ofString "b64decode", .ref 164),
  (Str.ofString "_parse_varint", .ref 171),
  (Str.ofString "_law_nodes", .ref 178),
  (Str.ofString "_law_branch", .ref 185),
  (Str.ofString "_law_table", .ref 190),
  (Str.ofString "_law_octets", .ref 197),
  (Str.ofString "_law_answer", .ref 202),
  (Str.ofString "_law_told", .ref 209),
  (Str.ofString "_law_nearer", .ref 214),
  (Str.ofString "_law_search", .ref 221),
  (Str.ofString "_law_narrows", .ref 228),
  (Str.ofString "law", .ref 233),
  (Str.ofString "len", .builtin "len"),
  (Str.ofString "min", .builtin "min"),
  (Str.ofString "sorted", .builtin "sorted"),
  (Str.ofString "iter", .builtin "iter"),
  (Str.ofString "next", .builtin "next"),
  (Str.ofString "isinstance", .builtin "isinstance"),
  (Str.ofString "bytes", .type "bytes"),
  (Str.ofString "object", .type "object"),
  (Str.ofString "str", .type "str"),
  (Str.ofString "type", .type "type"),
  (Str.ofString "bool", .type "bool"),
  (Str.ofString "bytearray", .type "bytearray"),
  (Str.ofString "StopIteration", .type "StopIteration"),
  (Str.ofString "range", .type "range"),
  (Str.ofString "zip", .type "zip"),
  (Str.ofString "reversed", .type "reversed"),
  (Str.ofString "bytes_types", .tup [.type "bytes", .type "bytearray"]),
  (Str.ofString "_B64", .bytes b64tab)]
structure Prog (g : G) : Prop where
  K : (Mine.KK g.w.params).In g.h₀
  gl : g.glob = globs
theorem Prog.g_heappush {g : G} (P : Prog g) : g.glob.lookup (Str.ofString "heappush") = some (.ref 28) := by rw [P.gl]; kernel_rfl
theorem Prog.g_heappop {g : G} (P : Prog g) : g.glob.lookup (Str.ofString "heappop") = some (.ref 35) := by rw [P.gl]; kernel_rfl
theorem Prog.g_heapreplace_max {g : G} (P : Prog g) : g.glob.lookup (Str.ofString "_heapreplace_max") = some (.ref 42) := by rw [P.gl]; kernel_rfl
theorem Prog.g_heapify_max {g : G} (P : Prog g) : g.glob.lookup (Str.ofString "_heapify_max") = some (.ref 49) := by rw [P.gl]; kernel_rfl
theorem Prog.g_siftdown {g : G} (P : Prog g) : g.glob.lookup (Str.ofString "_siftdown") = some (.ref 56) := by rw [P.gl]; kernel_rfl
theorem Prog.g_siftup {g : G} (P : Prog g) : g.glob.lookup (Str.ofString "_siftup") = some (.ref 63) := by rw [P.gl]; kernel_rfl
theorem Prog.g_siftdown_max {g : G} (P : Prog g) : g.glob.lookup (Str.ofString "_siftdown_max") = some (.ref 70) := by rw [P.gl]; kernel_rfl
theorem Prog.g_siftup_max {g : G} (P : Prog g) : g.glob.lookup (Str.ofString "_siftup_max") = some (.ref 77) := by rw [P.gl]; kernel_rfl
theorem Prog.g_nsmallest {g : G} (P : Prog g) : g.glob.lookup (Str.ofString "nsmallest") = some (.ref 83) := by rw [P.gl]; kernel_rfl
theorem Prog.g_bytes_from_decode_data {g : G} (P : Prog g) : g.glob.lookup (Str.ofString "_bytes_from_decode_data") = some (.ref 91) := by rw [P.gl]; kernel_rfl
theorem Prog.g_ascii_buffer {g : G} (P : Prog g) : g.glob.lookup (Str.ofString "_ascii_buffer") = some (.ref 111) := by rw [P.gl]; kernel_rfl
theorem Prog.g_buffer {g : G} (P : Prog g) : g.glob.lookup (Str.ofString "_buffer") = some (.ref 118) := by rw [P.gl]; kernel_rfl
theorem Prog.g_truth {g : G} (P : Prog g) : g.glob.lookup (Str.ofString "_truth") = some (.ref 125) := by rw [P.gl]; kernel_rfl
theorem Prog.g_b64_value {g : G} (P : Prog g) : g.glob.lookup (Str.ofString "_b64_value") = some (.ref 132) := by rw [P.gl]; kernel_rfl
theorem Prog.g_a2b_base64 {g : G} (P : Prog g) : g.glob.lookup (Str.ofString "a2b_base64") = some (.ref 140) := by rw [P.gl]; kernel_rfl
theorem Prog.g_b2a_base64 {g : G} (P : Prog g) : g.glob.lookup (Str.ofString "b2a_base64") = some (.ref 148) := by rw [P.gl]; kernel_rfl
theorem Prog.g_b64encode {g : G} (P : Prog g) : g.glob.lookup (Str.ofString "b64encode") = some (.ref 156) := by rw [P.gl]; kernel_rfl
theorem Prog.g_b64decode {g : G} (P : Prog g) : g.glob.lookup (Str.ofString "b64decode") = some (.ref 164) := by rw [P.gl]; kernel_rfl
theorem Prog.g_parse_varint {g : G} (P : Prog g) : g.glob.lookup (Str.ofString "_parse_varint") = some (.ref 171) := by rw [P.gl]; kernel_rfl
theorem Prog.g_law_nodes {g : G} (P : Prog g) : g.glob.lookup (Str.ofString "_law_nodes") = some (.ref 178) := by rw [P.gl]; kernel_rfl
theorem Prog.g_law_branch {g : G} (P : Prog g) : g.glob.lookup (Str.ofString "_law_branch") = some (.ref 185) := by rw [P.gl]; kernel_rfl
theorem Prog.g_law_table {g : G} (P : Prog g) : g.glob.lookup (Str.ofString "_law_table") = some (.ref 190) := by rw [P.gl]; kernel_rfl
theorem Prog.g_law_octets {g : G} (P : Prog g) : g.glob.lookup (Str.ofString "_law_octets") = some (.ref 197) := by rw [P.gl]; kernel_rfl
theorem Prog.g_law_answer {g : G} (P : Prog g) : g.glob.lookup (Str.ofString "_law_answer") = some (.ref 202) := by rw [P.gl]; kernel_rfl
theorem Prog.g_law_told {g : G} (P : Prog g) : g.glob.lookup (Str.ofString "_law_told") = some (.ref 209) := by rw [P.gl]; kernel_rfl
theorem Prog.g_law_nearer {g : G} (P : Prog g) : g.glob.lookup (Str.ofString "_law_nearer") = some (.ref 214) := by rw [P.gl]; kernel_rfl
theorem Prog.g_law_search {g : G} (P : Prog g) : g.glob.lookup (Str.ofString "_law_search") = some (.ref 221) := by rw [P.gl]; kernel_rfl
theorem Prog.g_law_narrows {g : G} (P : Prog g) : g.glob.lookup (Str.ofString "_law_narrows") = some (.ref 228) := by rw [P.gl]; kernel_rfl
theorem Prog.g_len {g : G} (P : Prog g) : g.glob.lookup (Str.ofString "len") = some (.builtin "len") := by rw [P.gl]; kernel_rfl
theorem Prog.g_min {g : G} (P : Prog g) : g.glob.lookup (Str.ofString "min") = some (.builtin "min") := by rw [P.gl]; kernel_rfl
theorem Prog.g_sorted {g : G} (P : Prog g) : g.glob.lookup (Str.ofString "sorted") = some (.builtin "sorted") := by rw [P.gl]; kernel_rfl
theorem Prog.g_iter {g : G} (P : Prog g) : g.glob.lookup (Str.ofString "iter") = some (.builtin "iter") := by rw [P.gl]; kernel_rfl
theorem Prog.g_next {g : G} (P : Prog g) : g.glob.lookup (Str.ofString "next") = some (.builtin "next") := by rw [P.gl]; kernel_rfl
theorem Prog.g_isinstance {g : G} (P : Prog g) : g.glob.lookup (Str.ofString "isinstance") = some (.builtin "isinstance") := by rw [P.gl]; kernel_rfl
theorem Prog.g_bytes {g : G} (P : Prog g) : g.glob.lookup (Str.ofString "bytes") = some (.type "bytes") := by rw [P.gl]; kernel_rfl
theorem Prog.g_object {g : G} (P : Prog g) : g.glob.lookup (Str.ofString "object") = some (.type "object") := by rw [P.gl]; kernel_rfl
theorem Prog.g_str {g : G} (P : Prog g) : g.glob.lookup (Str.ofString "str") = some (.type "str") := by rw [P.gl]; kernel_rfl
theorem Prog.g_type {g : G} (P : Prog g) : g.glob.lookup (Str.ofString "type") = some (.type "type") := by rw [P.gl]; kernel_rfl
theorem Prog.g_bool {g : G} (P : Prog g) : g.glob.lookup (Str.ofString "bool") = some (.type "bool") := by rw [P.gl]; kernel_rfl
theorem Prog.g_StopIteration {g : G} (P : Prog g) : g.glob.lookup (Str.ofString "StopIteration") = some (.type "StopIteration") := by rw [P.gl]; kernel_rfl
theorem Prog.g_range {g : G} (P : Prog g) : g.glob.lookup (Str.ofString "range") = some (.type "range") := by rw [P.gl]; kernel_rfl
theorem Prog.g_zip {g : G} (P : Prog g) : g.glob.lookup (Str.ofString "zip") = some (.type "zip") := by rw [P.gl]; kernel_rfl
theorem Prog.g_reversed {g : G} (P : Prog g) : g.glob.lookup (Str.ofString "reversed") = some (.type "reversed") := by rw [P.gl]; kernel_rfl
theorem Prog.g_bytes_types {g : G} (P : Prog g) : g.glob.lookup (Str.ofString "bytes_types") = some (.tup [.type "bytes", .type "bytearray"]) := by rw [P.gl]; kernel_rfl
theorem Prog.g_B64 {g : G} (P : Prog g) : g.glob.lookup (Str.ofString "_B64") = some (.bytes b64tab) := by rw [P.gl]; kernel_rfl
theorem lk_or {x y : Str} {b : Bool} {v : PV} {m : Vars} {r : Option PV} (h : ((x == y) || b) = false) (k : b = false → List.lookup x m = r) : List.lookup x ((y, v) :: m) = r :=
  let ⟨h1, h2⟩ := Bool.or_eq_false_iff.mp h
  lk_skip h1 (k h2)
theorem lk0' {x : Str} {v w : PV} {m : Vars} (h : v = w) : List.lookup x ((x, v) :: m) = some w := by subst h; exact lk_hit
theorem lk1 {x y0 : Str} {v w0 : PV} {m : Vars} (h : ((x == y0) || (false)) = false) : List.lookup x ((y0, w0) :: (x, v) :: m) = some v := lk_or h fun h1 => lk_hit
theorem lk1' {x y0 : Str} {v u w0 : PV} {m : Vars} (h : ((x == y0) || (false)) = false) (e : v = u) : List.lookup x ((y0, w0) :: (x, v) :: m) = some u := by subst e; exact lk1 h
theorem lk2 {x y0 y1 : Str} {v w0 w1 : PV} {m : Vars} (h : ((x == y0) || ((x == y1) || (false))) = false) : List.lookup x ((y0, w0) :: (y1, w1) :: (x, v) :: m) = some v := lk_or h fun h1 => lk_or h1 fun h2 => lk_hit
theorem lk2' {x y0 y1 : Str} {v u w0 w1 : PV} {m : Vars} (h : ((x == y0) || ((x == y1) || (false))) = false) (e : v = u) : List.lookup x ((y0, w0) :: (y1, w1) :: (x, v) :: m) = some u := by subst e; exact lk2 h
theorem lk3 {x y0 y1 y2 : Str} {v w0 w1 w2 : PV} {m : Vars} (h : ((x == y0) || ((x == y1) || ((x == y2) || (false)))) = false) : List.lookup x ((y0, w0) :: (y1, w1) :: (y2, w2) :: (x, v) :: m) = some v := lk_or h fun h1 => lk_or h1 fun h2 => lk_or h2 fun h3 => lk_hit
theorem lk3' {x y0 y1 y2 : Str} {v u w0 w1 w2 : PV} {m : Vars} (h : ((x == y0) || ((x == y1) || ((x == y2) || (false)))) = false) (e : v = u) : List.lookup x ((y0, w0) :: (y1, w1) :: (y2, w2) :: (x, v) :: m) = some u := by subst e; exact lk3 h
theorem lk4 {x y0 y1 y2 y3 : Str} {v w0 w1 w2 w3 : PV} {m : Vars} (h : ((x == y0) || ((x == y1) || ((x == y2) || ((x == y3) || (false))))) = false) : List.lookup x ((y0, w0) :: (y1, w1) :: (y2, w2) :: (y3, w3) :: (x, v) :: m) = some v := lk_or h fun h1 => lk_or h1 fun h2 => lk_or h2 fun h3 => lk_or h3 fun h4 => lk_hit
theorem lk5 {x y0 y1 y2 y3 y4 : Str} {v w0 w1 w2 w3 w4 : PV} {m : Vars} (h : ((x == y0) || ((x == y1) || ((x == y2) || ((x == y3) || ((x == y4) || (false)))))) = false) : List.lookup x ((y0, w0) :: (y1, w1) :: (y2, w2) :: (y3, w3) :: (y4, w4) :: (x, v) :: m) = some v := lk_or h fun h1 => lk_or h1 fun h2 => lk_or h2 fun h3 => lk_or h3 fun h4 => lk_or h4 fun h5 => lk_hit
theorem lk6 {x y0 y1 y2 y3 y4 y5 : Str} {v w0 w1 w2 w3 w4 w5 : PV} {m : Vars} (h : ((x == y0) || ((x == y1) || ((x == y2) || ((x == y3) || ((x == y4) || ((x == y5) || (false))))))) = false) : List.lookup x ((y0, w0) :: (y1, w1) :: (y2, w2) :: (y3, w3) :: (y4, w4) :: (y5, w5) :: (x, v) :: m) = some v := lk_or h fun h1 => lk_or h1 fun h2 => lk_or h2 fun h3 => lk_or h3 fun h4 => lk_or h4 fun h5 => lk_or h5 fun h6 => lk_hit
theorem lk7 {x y0 y1 y2 y3 y4 y5 y6 : Str} {v w0 w1 w2 w3 w4 w5 w6 : PV} {m : Vars} (h : ((x == y0) || ((x == y1) || ((x == y2) || ((x == y3) || ((x == y4) || ((x == y5) || ((x == y6) || (false)))))))) = false) : List.lookup x ((y0, w0) :: (y1, w1) :: (y2, w2) :: (y3, w3) :: (y4, w4) :: (y5, w5) :: (y6, w6) :: (x, v) :: m) = some v := lk_or h fun h1 => lk_or h1 fun h2 => lk_or h2 fun h3 => lk_or h3 fun h4 => lk_or h4 fun h5 => lk_or h5 fun h6 => lk_or h6 fun h7 => lk_hit
theorem lk8 {x y0 y1 y2 y3 y4 y5 y6 y7 : Str} {v w0 w1 w2 w3 w4 w5 w6 w7 : PV} {m : Vars} (h : ((x == y0) || ((x == y1) || ((x == y2) || ((x == y3) || ((x == y4) || ((x == y5) || ((x == y6) || ((x == y7) || (false))))))))) = false) : List.lookup x ((y0, w0) :: (y1, w1) :: (y2, w2) :: (y3, w3) :: (y4, w4) :: (y5, w5) :: (y6, w6) :: (y7, w7) :: (x, v) :: m) = some v := lk_or h fun h1 => lk_or h1 fun h2 => lk_or h2 fun h3 => lk_or h3 fun h4 => lk_or h4 fun h5 => lk_or h5 fun h6 => lk_or h6 fun h7 => lk_or h7 fun h8 => lk_hit
theorem lk9 {x y0 y1 y2 y3 y4 y5 y6 y7 y8 : Str} {v w0 w1 w2 w3 w4 w5 w6 w7 w8 : PV} {m : Vars} (h : ((x == y0) || ((x == y1) || ((x == y2) || ((x == y3) || ((x == y4) || ((x == y5) || ((x == y6) || ((x == y7) || ((x == y8) || (false)))))))))) = false) : List.lookup x ((y0, w0) :: (y1, w1) :: (y2, w2) :: (y3, w3) :: (y4, w4) :: (y5, w5) :: (y6, w6) :: (y7, w7) :: (y8, w8) :: (x, v) :: m) = some v := lk_or h fun h1 => lk_or h1 fun h2 => lk_or h2 fun h3 => lk_or h3 fun h4 => lk_or h4 fun h5 => lk_or h5 fun h6 => lk_or h6 fun h7 => lk_or h7 fun h8 => lk_or h8 fun h9 => lk_hit
theorem lk10 {x y0 y1 y2 y3 y4 y5 y6 y7 y8 y9 : Str} {v w0 w1 w2 w3 w4 w5 w6 w7 w8 w9 : PV} {m : Vars} (h : ((x == y0) || ((x == y1) || ((x == y2) || ((x == y3) || ((x == y4) || ((x == y5) || ((x == y6) || ((x == y7) || ((x == y8) || ((x == y9) || (false))))))))))) = false) : List.lookup x ((y0, w0) :: (y1, w1) :: (y2, w2) :: (y3, w3) :: (y4, w4) :: (y5, w5) :: (y6, w6) :: (y7, w7) :: (y8, w8) :: (y9, w9) :: (x, v) :: m) = some v := lk_or h fun h1 => lk_or h1 fun h2 => lk_or h2 fun h3 => lk_or h3 fun h4 => lk_or h4 fun h5 => lk_or h5 fun h6 => lk_or h6 fun h7 => lk_or h7 fun h8 => lk_or h8 fun h9 => lk_or h9 fun h10 => lk_hit
theorem calls_fnX {g : G} {n : Nat} {a : Addr} {o : Obj} {fd : FuncData} {body : List Stmt} {k : ScopeKind} {nm : List (Str × NameKind)} {b1 b2 : Bool} {mr : List (Str × Const)} {vs : List PV} {kw : List (Str × PV)} {pb : Vars} {H : HF} {Q : PV → HF → Prop} (ho : g.h₀.get? a = some o) (hd : o.data = .func fd) (hbody : fd.body = .stmts body) (hsc : fd.scope = ⟨k, nm, b1, b2, mr⟩) (hok : fnOK ⟨k, nm, b1, b2, mr⟩ pb = true)
    (hclo : fd.closure = []) (hgl : fd.globals = mainGlobals) (hbl : fd.builtins = builtinsNs) {cd : Addr} (hcd : ∃ o ws t, fd.code = .ref cd ∧ g.h₀.get? cd = some o ∧ o.data = .fields ws ∧ ws[1]? = some (.str fd.qualname t)) (hb : Binds g fd vs kw pb)
    (h : EvSs (fnCx g n ⟨k, nm, b1, b2, mr⟩ (.ref cd)) body pb H (fun fl _ H' => ∃ H'', H''.Le H' ∧ Q (retV fl) H'')) : Calls g (n + 1) (.ref a) vs kw H Q :=
  let ⟨o1, ws, t, e1, r⟩ := hcd
  calls_fn ho hd hbody (by rw [hsc]; exact hok) hclo hgl hbl ⟨cd, o1, ws, t, e1, r⟩ hb (by rw [hsc, e1]; exact h)
noncomputable def ti (l : List Int) : PV := .tup (l.map .int)
end
local macro_rules | `(tactic| walk_at "lk") => `(tactic| (with_reducible first | exact lk_hit | exact lk1 (by kernel_rfl) | exact lk2 (by kernel_rfl) | exact lk3 (by kernel_rfl) | exact lk4 (by kernel_rfl) | exact lk5 (by kernel_rfl) | exact lk6 (by kernel_rfl) | exact lk7 (by kernel_rfl) | exact lk8 (by kernel_rfl) | exact lk9 (by kernel_rfl) | exact lk10 (by kernel_rfl)))
local macro_rules | `(tactic| walk_at "lkv") => `(tactic| ((with_reducible first | exact lk_hit | refine lk0' ?_ | exact lk1 (by kernel_rfl) | refine lk1' (by kernel_rfl) ?_ | exact lk2 (by kernel_rfl) | refine lk2' (by kernel_rfl) ?_ | exact lk3 (by kernel_rfl) | refine lk3' (by kernel_rfl) ?_ | exact lk4 (by kernel_rfl) | exact lk5 (by kernel_rfl) | exact lk6 (by kernel_rfl) | exact lk7 (by kernel_rfl) | exact lk8 (by kernel_rfl) | exact lk9 (by kernel_rfl) | exact lk10 (by kernel_rfl)); (try (first | (with_reducible exact rfl) | exact rfl | (congr 1; omega)))))
local macro_rules | `(tactic| walk_at "ev1") => `(tactic| (first
  | (with_reducible first
    | apply EvSs_cons
    | apply EvSs_nil
    | apply Then_next
    | apply Then_ret
    | apply Then_cont
    | apply Then_brk
    | apply TurnEnd_next
    | apply TurnEnd_cont
    | apply TurnEnd_brk
    | apply Cut_next
    | apply Cut_ret
    | refine gen_end (by assumption) ?_
    | apply EvS_Return
    | apply EvS_Continue
    | apply EvS_Break
    | refine EvS_Expr (by kernel_rfl) ?_
    | apply EvT_Not
    | apply EvT_BoolOp
    | refine EvT_Compare (by kernel_rfl) ?_
    | refine EvT_Compare2 (by kernel_rfl) ?_
    | refine EvT_value (by kernel_rfl) ?_
    | apply EvTs_nilA
    | apply EvTs_consA
    | apply EvTs_consO
    | apply EvL_nil
    | refine EvL_cons (by kernel_rfl) ?_
    | apply EvIfs_nil
    | apply EvIfs_one
    | apply EvK_nil
    | apply EvK_cons
    | apply EvAs_nil
    | refine EvAs_cons (by kernel_rfl) ?_
    | refine EvA_Name (by kernel_rfl) ?_
    | apply EvA_Subscript
    | refine EvA_Tuple (by kernel_rfl) (by with_unfolding_all rfl) ?_
    | apply EvE_int
    | apply EvE_none
    | apply EvE_bool
    | apply EvE_BinOp
    | apply EvE_IfExp
    | apply EvE_Tuple
    | apply EvE_List
    | apply EvE_Slice
    | apply EvO_none
    | apply EvO_some
    | apply EvE_Subscript
    | refine EvE_Call (by kernel_rfl) (by kernel_rfl) ?_
    | refine meth_append (by kernel_rfl) ?_
    | refine meth_pop (by kernel_rfl) ?_
    | refine meth_insert (by kernel_rfl) ?_
    | apply bin_add
    | apply bin_sub
    | apply cmp_lt
    | apply cmp_le
    | apply cmp_gt
    | apply cmp_ge
    | apply cmp_eq
    | apply cmp_ne
    | apply cmp_is_none
    | apply cmp_isnot_none
    | apply cmp_is_type
    | apply tru_bool
    | apply tru_int)
  | ((with_reducible refine EvS_AssignX ?h1 ?h2 ?h3 ?_); (case h1 => exact rfl); (case h2 => exact fun _ _ => by kernel_rfl); (case h3 => exact fun _ _ => by kernel_rfl))
  | ((with_reducible refine' EvS_Aug ?h1 ?h2 ?h3 ?h4 ?_); (case h3 => walk_at "lk"); (case h1 => kernel_rfl); (case h2 => kernel_rfl); (case h4 => kernel_rfl))
  | ((with_reducible refine' EvE_var ?h1 ?h2 ?h3 ?_); (case h2 => walk_at "lk"); (case h1 => kernel_rfl); (case h3 => kernel_rfl))
  | ((with_reducible refine' EvE_glob ?h1 ?h2 ?h3 ?_); (case h2 => with_reducible assumption); (case h1 => kernel_rfl); (case h3 => kernel_rfl))))
local macro_rules | `(tactic| walk_at "ev") => `(tactic| (repeat (walk_at "ev1")))
local macro_rules | `(tactic| walk_at "vle") => `(tactic| (repeat (first | (with_reducible exact Vars.Le.refl _) | (with_reducible exact vle_nil) | ((with_reducible refine vle_cons ?lkh ?_); (case lkh => walk_at "lkv")))))
section
/-! heapq -/
noncomputable def sdn (xs : List (List Int)) (start pos : Nat) (new : List Int) : List (List Int) :=
  if h : start < pos then
    if lexLt new (xs.getD ((pos - 1) / 2) []) = true then sdn (xs.set pos (xs.getD ((pos - 1) / 2) [])) start ((pos - 1) / 2) new
    else xs.set pos new
  else xs.set pos new
termination_by pos
decreasing_by with_reducible exact pa_sp (by assumption)
theorem shr1 (p : Nat) (h : 0 < p) : ((p : Int) - 1).fdiv (2 ^ (1 : Int).toNat) = (((p - 1) / 2 : Nat) : Int) := by
  have e : ((p : Int) - 1) = ((p - 1 : Nat) : Int) := by with_reducible exact ix4 (by assumption)
  rw [e]
  show ((p - 1 : Nat) : Int).fdiv 2 = _
  rw [Int.fdiv_eq_ediv_of_nonneg _ (by decide)]
  exact rfl
theorem getD_ti {xs : List (List Int)} {i : Nat} (h : i < xs.length) : (xs.map ti)[i]? = some (ti (xs.getD i [])) := by
  simp [List.getElem?_map, List.getElem?_eq_getElem h, List.getD]
theorem set_ti {xs : List (List Int)} {i : Nat} {x : List Int} : (xs.map ti).set i (ti x) = (xs.set i x).map ti := by
  simp [List.map_set]
/-- all items as long as each other -/
noncomputable def Lens (k : Nat) (xs : List (List Int)) : Prop := ∀ x ∈ xs, x.length = k
theorem Lens.getD {k : Nat} {xs : List (List Int)} {i : Nat} (h : Lens k xs) (hi : i < xs.length) : (xs.getD i []).length = k := by
  rw [List.getD_eq_getElem?_getD, List.getElem?_eq_getElem hi]; exact h _ (List.getElem_mem hi)
theorem Lens.set {k : Nat} {xs : List (List Int)} {i : Nat} {x : List Int} (h : Lens k xs) (hx : x.length = k) : Lens k (xs.set i x) := fun y hy => by
  rcases List.mem_or_eq_of_mem_set hy with h1 | rfl
  · exact h y h1
  · exact hx
theorem s_siftdown {g : G} {n k : Nat} (P : Prog g) {a : Addr} {xs : List (List Int)} {start pos : Nat} {H : HF} {Q : PV → HF → Prop} (hH : H a = some (.list (xs.map ti))) (hp : pos < xs.length) (hl : xs.length < 100000) (hk : Lens k xs)
    (h : Q .none (H.set a (.list ((sdn xs start pos (xs.getD pos [])).map ti)))) : Calls g (n + 1) (.ref 56) [.ref a, .int start, .int pos] [] H Q := by
  refine calls_fnX (P.K 56 _ rfl) rfl rfl rfl (by kernel_rfl) rfl rfl rfl ⟨_, _, _, rfl, P.K _ _ rfl, rfl, rfl⟩ (binds3 (x := Str.ofString "heap") (y := Str.ofString "startpos") (z := Str.ofString "pos") P.K fun _ _ _ _ => by kernel_rfl) ?_
  walk_at "ev"
  refine sub_listN rfl hH (by with_reducible exact Nat.lt_of_lt_of_le (by assumption) (Nat.le_of_lt (by assumption))) (getD_ti (by with_reducible assumption)) ?_
  walk_at "ev"
  refine EvS_While (σ := List (List Int) × Nat) (fun st => [(Str.ofString "heap", .ref a), (Str.ofString "startpos", .int start), (Str.ofString "pos", .int st.2), (Str.ofString "newitem", ti (xs.getD pos []))]) (fun st => H.set a (.list (st.1.map ti)))
    (fun st => st.2 < st.1.length ∧ st.1.length = xs.length ∧ Lens k st.1 ∧ sdn st.1 start st.2 (xs.getD pos []) = sdn xs start pos (xs.getD pos [])) (fun st => st.2) ⟨(xs, pos), ⟨hp, rfl, hk, rfl⟩, ?_, ?_⟩ ?_
  · walk_at "vle"
  · rw [HF.set_eq hH]; exact HF.Le.refl _
  · have hx := hk.getD hp
    rintro ⟨ys, p⟩ ⟨h1, h2, h3, h4⟩
    dsimp only at h1 h2 h3 h4 ⊢
    generalize hTE : TurnEnd _ _ _ _ = TE; revert TE; refine bar ?_; intro TE hTE
    rw [sdn] at h4
    walk_at "ev"
    refine ⟨fun ht => ?_, fun ht => ?_⟩
    · have ht := of_decide_eq_true ht
      rw [dif_pos (by with_reducible exact Int.ofNat_lt.mp (by assumption))] at h4
      have hq := h3.getD (i := (p - 1) / 2) (by with_reducible exact pa_n (by assumption))
      walk_at "ev"
      refine bin_shr (by decide) ?_
      rw [shr1 p (by with_reducible exact z7 (by assumption))]
      walk_at "ev"
      refine sub_listN rfl (HF.set_self ..) (by with_reducible exact pa_m (by assumption) (by assumption) (by assumption)) (getD_ti (by with_reducible exact pa_n (by assumption))) ?_
      walk_at "ev"
      refine EvS_If ?_
      walk_at "ev"
      refine cmp_lt_tup (by with_reducible exact Eq.trans (by assumption) (Eq.symm (by assumption))) ?_
      walk_at "ev"
      refine ⟨fun ht => ?_, fun ht => ?_⟩
      · rw [if_pos ht] at h4
        walk_at "ev"
        refine set_listN (HF.set_self ..) (by simp; with_reducible assumption) (by simp; with_reducible exact Nat.le_trans (Nat.le_of_eq (by assumption)) (Nat.le_of_lt (by assumption))) ?_
        rw [HF.set_set]
        walk_at "ev"
        refine ⟨(ys.set p (ys.getD ((p - 1) / 2) []), (p - 1) / 2), ⟨⟨by simp; with_reducible exact pa_n (by assumption), by simp; with_reducible assumption, h3.set hq, h4⟩, by simp only; with_reducible exact pa_ci (by assumption)⟩, ?_, ?_⟩
        · walk_at "vle"
        · rw [set_ti]; exact HF.Le.refl _
      · rw [if_neg (by rw [ht]; simp)] at h4
        walk_at "ev"
        refine set_listN (HF.set_self ..) (by simp; with_reducible assumption) (by simp; with_reducible exact Nat.le_trans (Nat.le_of_eq (by assumption)) (Nat.le_of_lt (by assumption))) ?_
        rw [HF.set_set, set_ti, h4]
        walk_at "ev"
        exact ⟨_, HF.Le.refl _, h⟩
    · have ht := of_decide_eq_false ht
      rw [dif_neg (by (intro _; with_reducible exact z8 (by assumption) (by assumption)))] at h4
      walk_at "ev"
      refine set_listN (HF.set_self ..) (by simp; with_reducible assumption) (by simp; with_reducible exact Nat.le_trans (Nat.le_of_eq (by assumption)) (Nat.le_of_lt (by assumption))) ?_
      rw [HF.set_set, set_ti, h4]
      walk_at "ev"
      exact ⟨_, HF.Le.refl _, h⟩
end
section
noncomputable def child (xs : List (List Int)) (c : Nat) : Nat :=
  if c + 1 < xs.length ∧ lexLt (xs.getD c []) (xs.getD (c + 1) []) = false then c + 1 else c
theorem child_lt {xs : List (List Int)} {c : Nat} (h : c < xs.length) : child xs c < xs.length ∧ c ≤ child xs c := by
  unfold child; split <;> (first | with_reducible exact ch1 (by assumption) | with_reducible exact ch2 (by assumption))
noncomputable def sup (xs : List (List Int)) (start pos : Nat) (new : List Int) : List (List Int) :=
  if h : 2 * pos + 1 < xs.length then sup (xs.set pos (xs.getD (child xs (2 * pos + 1)) [])) start (child xs (2 * pos + 1)) new
  else sdn (xs.set pos new) start pos ((xs.set pos new).getD pos [])
termination_by xs.length - pos
decreasing_by
  have := child_lt h
  simp only [List.length_set]
  exact sub_c this.2 this.1 rfl
theorem s_siftup {g : G} {n k : Nat} (P : Prog g) {a : Addr} {xs : List (List Int)} {pos : Nat} {H : HF} {Q : PV → HF → Prop} (hH : H a = some (.list (xs.map ti))) (hp : pos < xs.length) (hl : xs.length < 40000) (hk : Lens k xs)
    (h : Q .none (H.set a (.list ((sup xs pos pos (xs.getD pos [])).map ti)))) : Calls g (n + 2) (.ref 63) [.ref a, .int pos] [] H Q := by
  have gq0 := Prog.g_len P
  have gq1 := Prog.g_siftdown P
  refine calls_fnX (P.K 63 _ rfl) rfl rfl rfl (by kernel_rfl) rfl rfl rfl ⟨_, _, _, rfl, P.K _ _ rfl, rfl, rfl⟩ (binds2 (x := Str.ofString "heap") (y := Str.ofString "pos") P.K fun _ _ _ => by kernel_rfl) ?_
  walk_at "ev"
  refine ⟨trivial, calls_len hH (by simp; with_reducible exact Nat.le_trans (Nat.le_of_lt (by assumption)) (by decide)) ?_⟩
  rw [List.length_map]
  walk_at "ev"
  refine sub_listN rfl hH (by with_reducible exact Nat.lt_of_le_of_lt (Nat.le_of_lt (by assumption)) (Nat.lt_of_lt_of_le (by assumption) (by decide))) (getD_ti (by with_reducible assumption)) ?_
  walk_at "ev"
  refine bin_mul (by decide) ?_
  walk_at "ev"
  refine EvS_While (σ := List (List Int) × Nat) (fun st => [(Str.ofString "heap", .ref a), (Str.ofString "startpos", .int pos), (Str.ofString "pos", .int st.2), (Str.ofString "newitem", ti (xs.getD pos [])), (Str.ofString "endpos", .int (xs.length : Nat)), (Str.ofString "childpos", .int (2 * (st.2 : Int) + 1))]) (fun st => H.set a (.list (st.1.map ti)))
    (fun st => st.2 < st.1.length ∧ st.1.length = xs.length ∧ Lens k st.1 ∧ sup st.1 pos st.2 (xs.getD pos []) = sup xs pos pos (xs.getD pos [])) (fun st => xs.length - st.2) ⟨(xs, pos), ⟨hp, rfl, hk, rfl⟩, ?_, ?_⟩ ?_
  · walk_at "vle"
  · rw [HF.set_eq hH]; exact HF.Le.refl _
  · have hx := hk.getD hp
    rintro ⟨ys, p⟩ ⟨h1, h2, h3, h4⟩
    dsimp only at h1 h2 h3 h4 ⊢
    generalize hTE : TurnEnd _ _ _ _ = TE; revert TE; refine bar ?_; intro TE hTE
    rw [sup] at h4
    walk_at "ev"
    refine ⟨fun ht => ?_, fun ht => ?_⟩
    · have ht := of_decide_eq_true ht
      have ht' : 2 * p + 1 < ys.length := by with_reducible exact ci1 (by assumption) (by assumption)
      rw [dif_pos ht'] at h4
      obtain ⟨c1, c2⟩ := child_lt ht'
      have e1 : (2 * (p : Int) + 1) = ((2 * p + 1 : Nat) : Int) := by with_reducible exact ci5 _
      have e2 : ((2 * p + 1 : Nat) : Int) + 1 = ((2 * p + 1 + 1 : Nat) : Int) := by with_reducible exact ci6 _
      rw [e1]
      walk_at "ev"
      rw [e2]
      refine EvS_cut (σ := Unit) (fun _ => [(Str.ofString "childpos", PV.int (child ys (2 * p + 1) : Nat)), (Str.ofString "heap", .ref a), (Str.ofString "startpos", .int pos), (Str.ofString "pos", .int p), (Str.ofString "newitem", ti (xs.getD pos [])), (Str.ofString "endpos", .int (xs.length : Nat))]) (fun _ => H.set a (.list (ys.map ti))) (fun _ => True) ?_ fun _ _ => ?_
      · generalize hCU : Cut _ _ _ _ = CU; revert CU; refine bar ?_; intro CU hCU
        refine EvS_If ?_
        walk_at "ev"
        refine ⟨fun hr => ?_, fun hr => ?_⟩
        · have hr := of_decide_eq_true hr
          walk_at "ev"
          refine sub_listN rfl (HF.set_self ..) (by with_reducible exact sz1 (by assumption) (by assumption) (by assumption) (by assumption)) (getD_ti (by with_reducible assumption)) ?_
          walk_at "ev"
          refine sub_listN rfl (HF.set_self ..) (by with_reducible exact sz2 (by assumption) (by assumption) (by assumption) (by assumption)) (getD_ti (by with_reducible exact ci3 (by assumption) (by assumption))) ?_
          walk_at "ev"
          refine cmp_lt_tup (by rw [h3.getD (by with_reducible assumption), h3.getD (by with_reducible exact ci3 (by assumption) (by assumption))]) ?_
          walk_at "ev"
          refine ⟨fun hb => ?_, fun hb => ?_⟩
          · walk_at "ev"
            refine ⟨fun _ => ?_, fun q => nomatch q⟩
            walk_at "ev"
            refine ⟨(), trivial, ?_, HF.Le.refl _⟩
            have hc : child ys (2 * p + 1) = 2 * p + 1 + 1 := by unfold child; rw [if_pos ⟨by with_reducible exact ci3 (by assumption) (by assumption), by simpa using hb⟩]
            rw [hc]
            walk_at "vle"
          · refine ⟨fun q => (nomatch q), fun _ => ?_⟩
            walk_at "ev"
            refine ⟨(), trivial, ?_, HF.Le.refl _⟩
            have hc : child ys (2 * p + 1) = 2 * p + 1 := by unfold child; exact if_neg fun q => by rw [q.2] at hb; cases hb
            rw [hc]
            walk_at "vle"
        · have hr := of_decide_eq_false hr
          refine ⟨fun q => (nomatch q), fun _ => ?_⟩
          walk_at "ev"
          refine ⟨(), trivial, ?_, HF.Le.refl _⟩
          have hc : child ys (2 * p + 1) = 2 * p + 1 := by unfold child; exact if_neg fun q => by with_reducible exact ci4 (by assumption) (by assumption) (by assumption)
          rw [hc]
          walk_at "vle"
      · walk_at "ev"
        refine sub_listN rfl (HF.set_self ..) (by with_reducible exact sz3 (by assumption) (by assumption) (by assumption)) (getD_ti (by with_reducible assumption)) ?_
        walk_at "ev"
        refine set_listN (HF.set_self ..) (by simp; with_reducible assumption) (by simp; with_reducible exact Nat.le_of_lt (Nat.lt_of_le_of_lt (Nat.le_of_eq (by assumption)) (Nat.lt_of_lt_of_le (by assumption) (by decide)))) ?_
        rw [HF.set_set]
        walk_at "ev"
        refine bin_mul (by decide) ?_
        walk_at "ev"
        refine ⟨(ys.set p (ys.getD (child ys (2 * p + 1)) []), child ys (2 * p + 1)), ⟨⟨by simp; with_reducible assumption, by simp; with_reducible assumption, h3.set (h3.getD (by with_reducible assumption)), h4⟩, by simp only; with_reducible exact sub_c (by assumption) (by assumption) (by assumption)⟩, ?_, ?_⟩
        · walk_at "vle"
        · rw [set_ti]; exact HF.Le.refl _
    · have ht := of_decide_eq_false ht
      rw [dif_neg (by (intro _; with_reducible exact ci2 (by assumption) (by assumption) (by assumption)))] at h4
      walk_at "ev"
      refine set_listN (HF.set_self ..) (by simp; with_reducible assumption) (by simp; with_reducible exact Nat.le_of_lt (Nat.lt_of_le_of_lt (Nat.le_of_eq (by assumption)) (Nat.lt_of_lt_of_le (by assumption) (by decide)))) ?_
      rw [HF.set_set, set_ti]
      walk_at "ev"
      refine ⟨⟨_, _, P.K 56 _ rfl, rfl⟩, s_siftdown P (k := k) (HF.set_self ..) (by simp; with_reducible assumption) (by simp; with_reducible exact Nat.lt_of_le_of_lt (Nat.le_of_eq (by assumption)) (Nat.lt_of_lt_of_le (by assumption) (by decide))) (h3.set hx) ?_⟩
      rw [HF.set_set, h4]
      walk_at "ev"
      exact ⟨_, HF.Le.refl _, h⟩
noncomputable def hpush (xs : List (List Int)) (x : List Int) : List (List Int) := sdn (xs ++ [x]) 0 xs.length ((xs ++ [x]).getD xs.length [])
theorem s_heappush {g : G} {n k : Nat} (P : Prog g) {a : Addr} {xs : List (List Int)} {x : List Int} {H : HF} {Q : PV → HF → Prop} (hH : H a = some (.list (xs.map ti))) (hl : xs.length < 40000) (hk : Lens k xs) (hx : x.length = k)
    (h : Q .none (H.set a (.list ((hpush xs x).map ti)))) : Calls g (n + 2) (.ref 28) [.ref a, ti x] [] H Q := by
  have gq0 := Prog.g_len P
  have gq1 := Prog.g_siftdown P
  refine calls_fnX (P.K 28 _ rfl) rfl rfl rfl (by kernel_rfl) rfl rfl rfl ⟨_, _, _, rfl, P.K _ _ rfl, rfl, rfl⟩ (binds2 (x := Str.ofString "heap") (y := Str.ofString "item") P.K fun _ _ _ => by kernel_rfl) ?_
  walk_at "ev"
  refine ⟨a, _, rfl, hH, ?_⟩
  walk_at "ev"
  refine calls_append hH (by simp; with_reducible exact Nat.lt_of_lt_of_le (by assumption) (by decide)) ?_
  walk_at "ev"
  have e : xs.map ti ++ [ti x] = (xs ++ [x]).map ti := by simp
  rw [e]
  refine ⟨trivial, calls_len (HF.set_self ..) (by simp; with_reducible exact Nat.le_trans (Nat.le_of_lt (by assumption)) (by decide)) ?_⟩
  walk_at "ev"
  have e2 : (((xs ++ [x]).map ti).length : Int) - 1 = ((xs.length : Nat) : Int) := by simp
  rw [e2]
  refine ⟨⟨_, _, P.K 56 _ rfl, rfl⟩, s_siftdown (start := 0) P (k := k) (HF.set_self ..) (by simp) (by simp; with_reducible exact hp40 (by assumption)) (fun y hy => ?_) ?_⟩
  · rcases List.mem_append.mp hy with q | q
    · exact hk y q
    · simp at q; rw [q]; exact hx
  rw [HF.set_set]
  walk_at "ev"
  exact ⟨_, HF.Le.refl _, h⟩
noncomputable def hpop (xs : List (List Int)) (l : List Int) : List Int × List (List Int) :=
  if xs = [] then (l, []) else (xs.getD 0 [], sup (xs.set 0 l) 0 0 ((xs.set 0 l).getD 0 []))
theorem s_heappop {g : G} {n k : Nat} (P : Prog g) {a : Addr} {xs : List (List Int)} {l : List Int} {H : HF} {Q : PV → HF → Prop} (hH : H a = some (.list ((xs ++ [l]).map ti))) (hl : xs.length < 30000) (hk : Lens k (xs ++ [l]))
    (h : Q (ti (hpop xs l).1) (H.set a (.list ((hpop xs l).2.map ti)))) : Calls g (n + 3) (.ref 35) [.ref a] [] H Q := by
  have gq0 := Prog.g_siftup P
  refine calls_fnX (P.K 35 _ rfl) rfl rfl rfl (by kernel_rfl) rfl rfl rfl ⟨_, _, _, rfl, P.K _ _ rfl, rfl, rfl⟩ (binds1 (x := Str.ofString "heap") P.K fun _ _ => by kernel_rfl) ?_
  walk_at "ev"
  refine ⟨a, _, rfl, hH, ?_⟩
  walk_at "ev"
  have e : (xs ++ [l]).map ti = xs.map ti ++ [ti l] := by simp
  rw [e] at hH
  refine calls_pop hH (by simp; with_reducible exact Nat.lt_of_lt_of_le (by assumption) (by decide)) ?_
  walk_at "ev"
  refine EvS_If ?_
  walk_at "ev"
  refine tru_list (HF.set_self ..) (by simp; with_reducible exact Nat.le_trans (Nat.le_of_lt (by assumption)) (by decide)) ⟨fun hb => ?_, fun hb => ?_⟩
  · have hne : xs ≠ [] := by rintro rfl; simp at hb
    have hlen : 0 < xs.length := List.length_pos_iff.mpr hne
    unfold hpop at h
    rw [if_neg hne] at h
    walk_at "ev"
    refine sub_listN (k := 0) rfl (HF.set_self ..) (by decide) (getD_ti (by with_reducible assumption)) ?_
    walk_at "ev"
    refine set_listN (k := 0) (HF.set_self ..) (by simp; with_reducible assumption) (by simp; with_reducible exact Nat.le_trans (Nat.le_of_lt (by assumption)) (by decide)) ?_
    rw [HF.set_set, set_ti]
    walk_at "ev"
    refine ⟨⟨_, _, P.K 63 _ rfl, rfl⟩, s_siftup (pos := 0) P (k := k) (HF.set_self ..) (by simp; with_reducible assumption) (by simp; with_reducible exact Nat.lt_of_lt_of_le (by assumption) (by decide)) (Lens.set (fun y hy => hk y (List.mem_append_left _ hy)) (hk l (by simp))) ?_⟩
    rw [HF.set_set]
    walk_at "ev"
    exact ⟨_, HF.Le.refl _, h⟩
  · have hne : xs = [] := by cases xs with
      | nil => rfl
      | cons => simp at hb
    unfold hpop at h
    rw [if_pos hne] at h
    subst hne
    walk_at "ev"
    exact ⟨_, HF.Le.refl _, h⟩
end
section
/-! base64 -/
section
variable {g : G} {n : Nat} {H : HF} {Q : PV → HF → Prop}
theorem s_buffer (P : Prog g) {b : List UInt8} (h : Q (.bytes b) H) : Calls g (n + 1) (.ref 118) [.bytes b] [] H Q := by
  have gq0 := Prog.g_bytes P
  have gq1 := Prog.g_type P
  refine calls_fnX (P.K 118 _ rfl) rfl rfl rfl (by kernel_rfl) rfl rfl rfl ⟨_, _, _, rfl, P.K _ _ rfl, rfl, rfl⟩ (binds1 (x := Str.ofString "data") P.K fun _ _ => by kernel_rfl) ?_
  walk_at "ev"
  refine ⟨trivial, calls_type_bytes ?_⟩
  walk_at "ev"
  refine EvS_If ?_
  walk_at "ev"
  refine ⟨fun _ => ?_, fun q => (nomatch q)⟩
  walk_at "ev"
  exact ⟨_, HF.Le.refl _, h⟩
theorem s_ascii_buffer (P : Prog g) {b : List UInt8} (h : Q (.bytes b) H) : Calls g (n + 1) (.ref 111) [.bytes b] [] H Q := by
  have gq0 := Prog.g_bytes P
  have gq1 := Prog.g_str P
  have gq2 := Prog.g_type P
  refine calls_fnX (P.K 111 _ rfl) rfl rfl rfl (by kernel_rfl) rfl rfl rfl ⟨_, _, _, rfl, P.K _ _ rfl, rfl, rfl⟩ (binds1 (x := Str.ofString "data") P.K fun _ _ => by kernel_rfl) ?_
  walk_at "ev"
  refine ⟨trivial, calls_type_bytes ?_⟩
  walk_at "ev"
  refine EvS_If ?_
  walk_at "ev"
  refine ⟨fun q => (nomatch q), fun _ => ?_⟩
  walk_at "ev"
  refine EvS_If ?_
  walk_at "ev"
  refine ⟨fun _ => ?_, fun q => (nomatch q)⟩
  walk_at "ev"
  exact ⟨_, HF.Le.refl _, h⟩
theorem s_truth (P : Prog g) {b : Bool} (h : Q (.bool b) H) : Calls g (n + 1) (.ref 125) [.bool b] [] H Q := by
  have gq0 := Prog.g_bool P
  have gq1 := Prog.g_type P
  refine calls_fnX (P.K 125 _ rfl) rfl rfl rfl (by kernel_rfl) rfl rfl rfl ⟨_, _, _, rfl, P.K _ _ rfl, rfl, rfl⟩ (binds1 (x := Str.ofString "x") P.K fun _ _ => by kernel_rfl) ?_
  walk_at "ev"
  refine ⟨trivial, calls_type_bool ?_⟩
  walk_at "ev"
  refine EvS_If ?_
  walk_at "ev"
  refine ⟨fun q => (nomatch q), fun _ => ?_⟩
  walk_at "ev"
  refine ⟨fun _ => ⟨fun _ => ?_, fun q => (nomatch q)⟩, fun q => (nomatch q)⟩
  walk_at "ev"
  refine ⟨fun q => ?_, fun q => ?_⟩ <;> (walk_at "ev"; subst q; exact ⟨_, HF.Le.refl _, h⟩)
theorem s_from_decode (P : Prog g) {b : List UInt8} (h : Q (.bytes b) H) : Calls g (n + 1) (.ref 91) [.bytes b] [] H Q := by
  have gq0 := Prog.g_bytes_types P
  have gq1 := Prog.g_isinstance P
  have gq2 := Prog.g_str P
  refine calls_fnX (P.K 91 _ rfl) rfl rfl rfl (by kernel_rfl) rfl rfl rfl ⟨_, _, _, rfl, P.K _ _ rfl, rfl, rfl⟩ (binds1 (x := Str.ofString "s") P.K fun _ _ => by kernel_rfl) ?_
  walk_at "ev"
  refine EvS_If ?_
  walk_at "ev"
  refine ⟨trivial, calls_isi_str ?_⟩
  walk_at "ev"
  refine ⟨fun q => (nomatch q), fun _ => ?_⟩
  walk_at "ev"
  refine EvS_If ?_
  walk_at "ev"
  refine ⟨trivial, calls_isi_bytes ?_⟩
  walk_at "ev"
  refine ⟨fun _ => ?_, fun q => (nomatch q)⟩
  walk_at "ev"
  exact ⟨_, HF.Le.refl _, h⟩
noncomputable def tv (v : Nat) : Nat := (b64tab.getD v 0).toNat
theorem tv_lt0 : ∀ v < 64, tv v < 256 := by decide +kernel
theorem tv_lt {v : Nat} (h : v < 64) : tv v < 256 := tv_lt0 v h
theorem tvA : ∀ v < 64, 65 ≤ ((tv v : Nat) : Int) → ((tv v : Nat) : Int) ≤ 90 → ((tv v : Nat) : Int) - 65 = v := by decide +kernel
theorem tvB : ∀ v < 64, 97 ≤ ((tv v : Nat) : Int) → ((tv v : Nat) : Int) ≤ 122 → ((tv v : Nat) : Int) - 71 = v := by decide +kernel
theorem tvC : ∀ v < 64, 48 ≤ ((tv v : Nat) : Int) → ((tv v : Nat) : Int) ≤ 57 → ((tv v : Nat) : Int) + 4 = v := by decide +kernel
theorem tvD : ∀ v < 64, ((tv v : Nat) : Int) = 43 → (62 : Int) = v := by decide +kernel
theorem tvE : ∀ v < 64, ((tv v : Nat) : Int) = 47 → (63 : Int) = v := by decide +kernel
theorem tvF : ∀ v < 64, (65 ≤ ((tv v : Nat) : Int) ∧ ((tv v : Nat) : Int) ≤ 90) ∨ (97 ≤ ((tv v : Nat) : Int) ∧ ((tv v : Nat) : Int) ≤ 122) ∨ (48 ≤ ((tv v : Nat) : Int) ∧ ((tv v : Nat) : Int) ≤ 57) ∨ ((tv v : Nat) : Int) = 43 ∨ ((tv v : Nat) : Int) = 47 := by decide +kernel
theorem s_b64_value (P : Prog g) {v : Nat} (hv : v < 64) (h : Q (.int v) H) : Calls g (n + 1) (.ref 132) [.int (tv v : Nat)] [] H Q := by
  refine calls_fnX (P.K 132 _ rfl) rfl rfl rfl (by kernel_rfl) rfl rfl rfl ⟨_, _, _, rfl, P.K _ _ rfl, rfl, rfl⟩ (binds1 (x := Str.ofString "c") P.K fun _ _ => by kernel_rfl) ?_
  have fin : ∀ x : Int, x = v → ∃ H'', HF.Le H'' H ∧ Q (retV (.ret (.int x))) H'' := fun x e => ⟨_, HF.Le.refl _, by rw [e]; exact h⟩
  walk_at "ev"
  refine EvS_cut (σ := Unit) (fun _ => [(Str.ofString "c", .int (tv v : Nat))]) (fun _ => H) (fun _ => ¬ (65 ≤ ((tv v : Nat) : Int) ∧ ((tv v : Nat) : Int) ≤ 90)) (EvS_If ?_) fun _ f1 => ?_
  · walk_at "ev"
    refine ⟨fun h1 => ?_, fun h1 => ?_⟩
    · walk_at "ev"
      refine ⟨fun h2 => ?_, fun h2 => ?_⟩
      · have h1 := of_decide_eq_true h1
        have h2 := of_decide_eq_true h2
        walk_at "ev"
        exact fin _ (tvA v hv h1 h2)
      · have h2 := of_decide_eq_false h2
        walk_at "ev"
        exact ⟨(), fun z => h2 z.2, (by walk_at "vle"), HF.Le.refl _⟩
    · have h1 := of_decide_eq_false h1
      refine ⟨fun q => (nomatch q), fun _ => ?_⟩
      walk_at "ev"
      exact ⟨(), fun z => h1 z.1, (by walk_at "vle"), HF.Le.refl _⟩
  walk_at "ev"
  refine EvS_cut (σ := Unit) (fun _ => [(Str.ofString "c", .int (tv v : Nat))]) (fun _ => H) (fun _ => ¬ (97 ≤ ((tv v : Nat) : Int) ∧ ((tv v : Nat) : Int) ≤ 122)) (EvS_If ?_) fun _ f2 => ?_
  · walk_at "ev"
    refine ⟨fun h1 => ?_, fun h1 => ?_⟩
    · walk_at "ev"
      refine ⟨fun h2 => ?_, fun h2 => ?_⟩
      · have h1 := of_decide_eq_true h1
        have h2 := of_decide_eq_true h2
        walk_at "ev"
        exact fin _ (tvB v hv h1 h2)
      · have h2 := of_decide_eq_false h2
        walk_at "ev"
        exact ⟨(), fun z => h2 z.2, (by walk_at "vle"), HF.Le.refl _⟩
    · have h1 := of_decide_eq_false h1
      refine ⟨fun q => (nomatch q), fun _ => ?_⟩
      walk_at "ev"
      exact ⟨(), fun z => h1 z.1, (by walk_at "vle"), HF.Le.refl _⟩
  walk_at "ev"
  refine EvS_cut (σ := Unit) (fun _ => [(Str.ofString "c", .int (tv v : Nat))]) (fun _ => H) (fun _ => ¬ (48 ≤ ((tv v : Nat) : Int) ∧ ((tv v : Nat) : Int) ≤ 57)) (EvS_If ?_) fun _ f3 => ?_
  · walk_at "ev"
    refine ⟨fun h1 => ?_, fun h1 => ?_⟩
    · walk_at "ev"
      refine ⟨fun h2 => ?_, fun h2 => ?_⟩
      · have h1 := of_decide_eq_true h1
        have h2 := of_decide_eq_true h2
        walk_at "ev"
        exact fin _ (tvC v hv h1 h2)
      · have h2 := of_decide_eq_false h2
        walk_at "ev"
        exact ⟨(), fun z => h2 z.2, (by walk_at "vle"), HF.Le.refl _⟩
    · have h1 := of_decide_eq_false h1
      refine ⟨fun q => (nomatch q), fun _ => ?_⟩
      walk_at "ev"
      exact ⟨(), fun z => h1 z.1, (by walk_at "vle"), HF.Le.refl _⟩
  walk_at "ev"
  refine EvS_cut (σ := Unit) (fun _ => [(Str.ofString "c", .int (tv v : Nat))]) (fun _ => H) (fun _ => ¬ ((tv v : Nat) : Int) = 43) (EvS_If ?_) fun _ f4 => ?_
  · walk_at "ev"
    refine ⟨fun h1 => ?_, fun h1 => ?_⟩
    · have h1 : ((tv v : Nat) : Int) = 43 := eq_of_beq h1
      walk_at "ev"
      exact fin _ (tvD v hv h1)
    · have h1 : ¬ ((tv v : Nat) : Int) = 43 := by simpa using h1
      walk_at "ev"
      exact ⟨(), h1, (by walk_at "vle"), HF.Le.refl _⟩
  walk_at "ev"
  refine EvS_cut (σ := Unit) (fun _ => [(Str.ofString "c", .int (tv v : Nat))]) (fun _ => H) (fun _ => ¬ ((tv v : Nat) : Int) = 47) (EvS_If ?_) fun _ f5 => ?_
  · walk_at "ev"
    refine ⟨fun h1 => ?_, fun h1 => ?_⟩
    · have h1 : ((tv v : Nat) : Int) = 47 := eq_of_beq h1
      walk_at "ev"
      exact fin _ (tvE v hv h1)
    · have h1 : ¬ ((tv v : Nat) : Int) = 47 := by simpa using h1
      walk_at "ev"
      exact ⟨(), h1, (by walk_at "vle"), HF.Le.refl _⟩
  rcases tvF v hv with q | q | q | q | q <;> contradiction
end
end
section
noncomputable def sdnM (xs : List (List Int)) (start pos : Nat) (new : List Int) : List (List Int) :=
  if h : start < pos then
    if lexLt (xs.getD ((pos - 1) / 2) []) new = true then sdnM (xs.set pos (xs.getD ((pos - 1) / 2) [])) start ((pos - 1) / 2) new
    else xs.set pos new
  else xs.set pos new
termination_by pos
decreasing_by with_reducible exact pa_sp (by assumption)
theorem s_siftdown_max {g : G} {n k : Nat} (P : Prog g) {a : Addr} {xs : List (List Int)} {start pos : Nat} {H : HF} {Q : PV → HF → Prop} (hH : H a = some (.list (xs.map ti))) (hp : pos < xs.length) (hl : xs.length < 100000) (hk : Lens k xs)
    (h : Q .none (H.set a (.list ((sdnM xs start pos (xs.getD pos [])).map ti)))) : Calls g (n + 1) (.ref 70) [.ref a, .int start, .int pos] [] H Q := by
  refine calls_fnX (P.K 70 _ rfl) rfl rfl rfl (by kernel_rfl) rfl rfl rfl ⟨_, _, _, rfl, P.K _ _ rfl, rfl, rfl⟩ (binds3 (x := Str.ofString "heap") (y := Str.ofString "startpos") (z := Str.ofString "pos") P.K fun _ _ _ _ => by kernel_rfl) ?_
  walk_at "ev"
  refine sub_listN rfl hH (by with_reducible exact Nat.lt_of_lt_of_le (by assumption) (Nat.le_of_lt (by assumption))) (getD_ti (by with_reducible assumption)) ?_
  walk_at "ev"
  refine EvS_While (σ := List (List Int) × Nat) (fun st => [(Str.ofString "heap", .ref a), (Str.ofString "startpos", .int start), (Str.ofString "pos", .int st.2), (Str.ofString "newitem", ti (xs.getD pos []))]) (fun st => H.set a (.list (st.1.map ti)))
    (fun st => st.2 < st.1.length ∧ st.1.length = xs.length ∧ Lens k st.1 ∧ sdnM st.1 start st.2 (xs.getD pos []) = sdnM xs start pos (xs.getD pos [])) (fun st => st.2) ⟨(xs, pos), ⟨hp, rfl, hk, rfl⟩, ?_, ?_⟩ ?_
  · walk_at "vle"
  · rw [HF.set_eq hH]; exact HF.Le.refl _
  · have hx := hk.getD hp
    rintro ⟨ys, p⟩ ⟨h1, h2, h3, h4⟩
    dsimp only at h1 h2 h3 h4 ⊢
    generalize hTE : TurnEnd _ _ _ _ = TE; revert TE; refine bar ?_; intro TE hTE
    rw [sdnM] at h4
    walk_at "ev"
    refine ⟨fun ht => ?_, fun ht => ?_⟩
    · have ht := of_decide_eq_true ht
      rw [dif_pos (by with_reducible exact Int.ofNat_lt.mp (by assumption))] at h4
      have hq := h3.getD (i := (p - 1) / 2) (by with_reducible exact pa_n (by assumption))
      walk_at "ev"
      refine bin_shr (by decide) ?_
      rw [shr1 p (by with_reducible exact z7 (by assumption))]
      walk_at "ev"
      refine sub_listN rfl (HF.set_self ..) (by with_reducible exact pa_m (by assumption) (by assumption) (by assumption)) (getD_ti (by with_reducible exact pa_n (by assumption))) ?_
      walk_at "ev"
      refine EvS_If ?_
      walk_at "ev"
      refine cmp_lt_tup (by with_reducible exact Eq.trans (by assumption) (Eq.symm (by assumption))) ?_
      walk_at "ev"
      refine ⟨fun ht => ?_, fun ht => ?_⟩
      · rw [if_pos ht] at h4
        walk_at "ev"
        refine set_listN (HF.set_self ..) (by simp; with_reducible assumption) (by simp; with_reducible exact Nat.le_trans (Nat.le_of_eq (by assumption)) (Nat.le_of_lt (by assumption))) ?_
        rw [HF.set_set]
        walk_at "ev"
        refine ⟨(ys.set p (ys.getD ((p - 1) / 2) []), (p - 1) / 2), ⟨⟨by simp; with_reducible exact pa_n (by assumption), by simp; with_reducible assumption, h3.set hq, h4⟩, by simp only; with_reducible exact pa_ci (by assumption)⟩, ?_, ?_⟩
        · walk_at "vle"
        · rw [set_ti]; exact HF.Le.refl _
      · rw [if_neg (by rw [ht]; simp)] at h4
        walk_at "ev"
        refine set_listN (HF.set_self ..) (by simp; with_reducible assumption) (by simp; with_reducible exact Nat.le_trans (Nat.le_of_eq (by assumption)) (Nat.le_of_lt (by assumption))) ?_
        rw [HF.set_set, set_ti, h4]
        walk_at "ev"
        exact ⟨_, HF.Le.refl _, h⟩
    · have ht := of_decide_eq_false ht
      rw [dif_neg (by (intro _; with_reducible exact z8 (by assumption) (by assumption)))] at h4
      walk_at "ev"
      refine set_listN (HF.set_self ..) (by simp; with_reducible assumption) (by simp; with_reducible exact Nat.le_trans (Nat.le_of_eq (by assumption)) (Nat.le_of_lt (by assumption))) ?_
      rw [HF.set_set, set_ti, h4]
      walk_at "ev"
      exact ⟨_, HF.Le.refl _, h⟩
noncomputable def childM (xs : List (List Int)) (c : Nat) : Nat :=
  if c + 1 < xs.length ∧ lexLt (xs.getD (c + 1) []) (xs.getD c []) = false then c + 1 else c
theorem childM_lt {xs : List (List Int)} {c : Nat} (h : c < xs.length) : childM xs c < xs.length ∧ c ≤ childM xs c := by
  unfold childM; split <;> (first | with_reducible exact ch1 (by assumption) | with_reducible exact ch2 (by assumption))
noncomputable def supM (xs : List (List Int)) (start pos : Nat) (new : List Int) : List (List Int) :=
  if h : 2 * pos + 1 < xs.length then supM (xs.set pos (xs.getD (childM xs (2 * pos + 1)) [])) start (childM xs (2 * pos + 1)) new
  else sdnM (xs.set pos new) start pos ((xs.set pos new).getD pos [])
termination_by xs.length - pos
decreasing_by
  have := childM_lt h
  simp only [List.length_set]
  exact sub_c this.2 this.1 rfl
theorem s_siftup_max {g : G} {n k : Nat} (P : Prog g) {a : Addr} {xs : List (List Int)} {pos : Nat} {H : HF} {Q : PV → HF → Prop} (hH : H a = some (.list (xs.map ti))) (hp : pos < xs.length) (hl : xs.length < 40000) (hk : Lens k xs)
    (h : Q .none (H.set a (.list ((supM xs pos pos (xs.getD pos [])).map ti)))) : Calls g (n + 2) (.ref 77) [.ref a, .int pos] [] H Q := by
  have gq0 := Prog.g_len P
  have gq1 := Prog.g_siftdown_max P
  refine calls_fnX (P.K 77 _ rfl) rfl rfl rfl (by kernel_rfl) rfl rfl rfl ⟨_, _, _, rfl, P.K _ _ rfl, rfl, rfl⟩ (binds2 (x := Str.ofString "heap") (y := Str.ofString "pos") P.K fun _ _ _ => by kernel_rfl) ?_
  walk_at "ev"
  refine ⟨trivial, calls_len hH (by simp; with_reducible exact Nat.le_trans (Nat.le_of_lt (by assumption)) (by decide)) ?_⟩
  rw [List.length_map]
  walk_at "ev"
  refine sub_listN rfl hH (by with_reducible exact Nat.lt_of_le_of_lt (Nat.le_of_lt (by assumption)) (Nat.lt_of_lt_of_le (by assumption) (by decide))) (getD_ti (by with_reducible assumption)) ?_
  walk_at "ev"
  refine bin_mul (by decide) ?_
  walk_at "ev"
  refine EvS_While (σ := List (List Int) × Nat) (fun st => [(Str.ofString "heap", .ref a), (Str.ofString "startpos", .int pos), (Str.ofString "pos", .int st.2), (Str.ofString "newitem", ti (xs.getD pos [])), (Str.ofString "endpos", .int (xs.length : Nat)), (Str.ofString "childpos", .int (2 * (st.2 : Int) + 1))]) (fun st => H.set a (.list (st.1.map ti)))
    (fun st => st.2 < st.1.length ∧ st.1.length = xs.length ∧ Lens k st.1 ∧ supM st.1 pos st.2 (xs.getD pos []) = supM xs pos pos (xs.getD pos [])) (fun st => xs.length - st.2) ⟨(xs, pos), ⟨hp, rfl, hk, rfl⟩, ?_, ?_⟩ ?_
  · walk_at "vle"
  · rw [HF.set_eq hH]; exact HF.Le.refl _
  · have hx := hk.getD hp
    rintro ⟨ys, p⟩ ⟨h1, h2, h3, h4⟩
    dsimp only at h1 h2 h3 h4 ⊢
    generalize hTE : TurnEnd _ _ _ _ = TE; revert TE; refine bar ?_; intro TE hTE
    rw [supM] at h4
    walk_at "ev"
    refine ⟨fun ht => ?_, fun ht => ?_⟩
    · have ht := of_decide_eq_true ht
      have ht' : 2 * p + 1 < ys.length := by with_reducible exact ci1 (by assumption) (by assumption)
      rw [dif_pos ht'] at h4
      obtain ⟨c1, c2⟩ := childM_lt ht'
      have e1 : (2 * (p : Int) + 1) = ((2 * p + 1 : Nat) : Int) := by with_reducible exact ci5 _
      have e2 : ((2 * p + 1 : Nat) : Int) + 1 = ((2 * p + 1 + 1 : Nat) : Int) := by with_reducible exact ci6 _
      rw [e1]
      walk_at "ev"
      rw [e2]
      refine EvS_cut (σ := Unit) (fun _ => [(Str.ofString "childpos", PV.int (childM ys (2 * p + 1) : Nat)), (Str.ofString "heap", .ref a), (Str.ofString "startpos", .int pos), (Str.ofString "pos", .int p), (Str.ofString "newitem", ti (xs.getD pos [])), (Str.ofString "endpos", .int (xs.length : Nat))]) (fun _ => H.set a (.list (ys.map ti))) (fun _ => True) ?_ fun _ _ => ?_
      · generalize hCU : Cut _ _ _ _ = CU; revert CU; refine bar ?_; intro CU hCU
        refine EvS_If ?_
        walk_at "ev"
        refine ⟨fun hr => ?_, fun hr => ?_⟩
        · have hr := of_decide_eq_true hr
          walk_at "ev"
          refine sub_listN rfl (HF.set_self ..) (by with_reducible exact sz2 (by assumption) (by assumption) (by assumption) (by assumption)) (getD_ti (by with_reducible exact ci3 (by assumption) (by assumption))) ?_
          walk_at "ev"
          refine sub_listN rfl (HF.set_self ..) (by with_reducible exact sz1 (by assumption) (by assumption) (by assumption) (by assumption)) (getD_ti (by with_reducible assumption)) ?_
          walk_at "ev"
          refine cmp_lt_tup (by rw [h3.getD (by with_reducible exact ci3 (by assumption) (by assumption)), h3.getD (by with_reducible assumption)]) ?_
          walk_at "ev"
          refine ⟨fun hb => ?_, fun hb => ?_⟩
          · walk_at "ev"
            refine ⟨fun _ => ?_, fun q => nomatch q⟩
            walk_at "ev"
            refine ⟨(), trivial, ?_, HF.Le.refl _⟩
            have hc : childM ys (2 * p + 1) = 2 * p + 1 + 1 := by unfold childM; rw [if_pos ⟨by with_reducible exact ci3 (by assumption) (by assumption), by simpa using hb⟩]
            rw [hc]
            walk_at "vle"
          · refine ⟨fun q => (nomatch q), fun _ => ?_⟩
            walk_at "ev"
            refine ⟨(), trivial, ?_, HF.Le.refl _⟩
            have hc : childM ys (2 * p + 1) = 2 * p + 1 := by unfold childM; exact if_neg fun q => by rw [q.2] at hb; cases hb
            rw [hc]
            walk_at "vle"
        · have hr := of_decide_eq_false hr
          refine ⟨fun q => (nomatch q), fun _ => ?_⟩
          walk_at "ev"
          refine ⟨(), trivial, ?_, HF.Le.refl _⟩
          have hc : childM ys (2 * p + 1) = 2 * p + 1 := by unfold childM; exact if_neg fun q => by with_reducible exact ci4 (by assumption) (by assumption) (by assumption)
          rw [hc]
          walk_at "vle"
      · walk_at "ev"
        refine sub_listN rfl (HF.set_self ..) (by with_reducible exact sz3 (by assumption) (by assumption) (by assumption)) (getD_ti (by with_reducible assumption)) ?_
        walk_at "ev"
        refine set_listN (HF.set_self ..) (by simp; with_reducible assumption) (by simp; with_reducible exact Nat.le_of_lt (Nat.lt_of_le_of_lt (Nat.le_of_eq (by assumption)) (Nat.lt_of_lt_of_le (by assumption) (by decide)))) ?_
        rw [HF.set_set]
        walk_at "ev"
        refine bin_mul (by decide) ?_
        walk_at "ev"
        refine ⟨(ys.set p (ys.getD (childM ys (2 * p + 1)) []), childM ys (2 * p + 1)), ⟨⟨by simp; with_reducible assumption, by simp; with_reducible assumption, h3.set (h3.getD (by with_reducible assumption)), h4⟩, by simp only; with_reducible exact sub_c (by assumption) (by assumption) (by assumption)⟩, ?_, ?_⟩
        · walk_at "vle"
        · rw [set_ti]; exact HF.Le.refl _
    · have ht := of_decide_eq_false ht
      rw [dif_neg (by (intro _; with_reducible exact ci2 (by assumption) (by assumption) (by assumption)))] at h4
      walk_at "ev"
      refine set_listN (HF.set_self ..) (by simp; with_reducible assumption) (by simp; with_reducible exact Nat.le_of_lt (Nat.lt_of_le_of_lt (Nat.le_of_eq (by assumption)) (Nat.lt_of_lt_of_le (by assumption) (by decide)))) ?_
      rw [HF.set_set, set_ti]
      walk_at "ev"
      refine ⟨⟨_, _, P.K 70 _ rfl, rfl⟩, s_siftdown_max P (k := k) (HF.set_self ..) (by simp; with_reducible assumption) (by simp; with_reducible exact Nat.lt_of_le_of_lt (Nat.le_of_eq (by assumption)) (Nat.lt_of_lt_of_le (by assumption) (by decide))) (h3.set hx) ?_⟩
      rw [HF.set_set, h4]
      walk_at "ev"
      exact ⟨_, HF.Le.refl _, h⟩
noncomputable def hrep (xs : List (List Int)) (x : List Int) : List (List Int) := supM (xs.set 0 x) 0 0 ((xs.set 0 x).getD 0 [])
theorem s_heapreplace_max {g : G} {n k : Nat} (P : Prog g) {a : Addr} {xs : List (List Int)} {x : List Int} {H : HF} {Q : PV → HF → Prop} (hH : H a = some (.list (xs.map ti))) (h0 : 0 < xs.length) (hl : xs.length < 30000) (hk : Lens k xs) (hx : x.length = k)
    (h : Q (ti (xs.getD 0 [])) (H.set a (.list ((hrep xs x).map ti)))) : Calls g (n + 3) (.ref 42) [.ref a, ti x] [] H Q := by
  have gq0 := Prog.g_siftup_max P
  refine calls_fnX (P.K 42 _ rfl) rfl rfl rfl (by kernel_rfl) rfl rfl rfl ⟨_, _, _, rfl, P.K _ _ rfl, rfl, rfl⟩ (binds2 (x := Str.ofString "heap") (y := Str.ofString "item") P.K fun _ _ _ => by kernel_rfl) ?_
  walk_at "ev"
  refine sub_listN (k := 0) rfl hH (by decide) (getD_ti (by with_reducible assumption)) ?_
  walk_at "ev"
  refine set_listN (k := 0) hH (by simp; with_reducible assumption) (by simp; with_reducible exact Nat.le_trans (Nat.le_of_lt (by assumption)) (by decide)) ?_
  rw [set_ti]
  walk_at "ev"
  refine ⟨⟨_, _, P.K 77 _ rfl, rfl⟩, s_siftup_max (pos := 0) P (k := k) (HF.set_self ..) (by simp; with_reducible assumption) (by simp; with_reducible exact Nat.lt_of_lt_of_le (by assumption) (by decide)) (Lens.set hk hx) ?_⟩
  rw [HF.set_set]
  walk_at "ev"
  exact ⟨_, HF.Le.refl _, h⟩
end
section
noncomputable def popm (h : List (List Int)) : List Int := (hpop h.dropLast (h.getLastD [])).1
noncomputable def popr (h : List (List Int)) : List (List Int) := (hpop h.dropLast (h.getLastD [])).2
/-! the heap keeps what it holds -/
theorem perm_cons_set {α : Type} (d : α) : ∀ (ys : List α) (k : Nat) (x : α), k < ys.length → (ys.getD k d :: ys.set k x).Perm (x :: ys)
  | [], k, x, h => by simp at h
  | z :: zs, 0, x, h => by simpa using List.Perm.swap x z zs
  | z :: zs, k + 1, x, h => by
    have ih := perm_cons_set d zs k x (by simpa using h)
    have e : (z :: zs).getD (k + 1) d = zs.getD k d := by simp
    rw [e, List.set_cons_succ]
    exact (List.Perm.swap z _ _).trans ((ih.cons z).trans (List.Perm.swap x z zs))
theorem perm_set {α : Type} (d : α) : ∀ (xs : List α) (i j : Nat) (x : α), i < xs.length → j < xs.length → ((xs.set i (xs.getD j d)).set j x).Perm (xs.set i x)
  | [], i, j, x, h, _ => by simp at h
  | y :: ys, 0, 0, x, h, _ => by simp
  | y :: ys, 0, k + 1, x, h, h2 => by
    have e : (y :: ys).getD (k + 1) d = ys.getD k d := by simp
    rw [e, List.set_cons_zero, List.set_cons_succ, List.set_cons_zero]
    exact perm_cons_set d ys k x (by simpa using h2)
  | y :: ys, k + 1, 0, x, h, _ => by
    have hk : k < ys.length := by simpa using h
    have e : (y :: ys).getD 0 d = y := by simp
    rw [e, List.set_cons_succ, List.set_cons_zero, List.set_cons_succ]
    have := perm_cons_set d (ys.set k y) k x (by simpa using hk)
    have e2 : (ys.set k y).getD k d = y := by simp [hk]
    rw [e2, List.set_set] at this
    exact this.symm
  | y :: ys, i + 1, j + 1, x, h, h2 => by
    have e : (y :: ys).getD (j + 1) d = ys.getD j d := by simp
    rw [e, List.set_cons_succ, List.set_cons_succ, List.set_cons_succ]
    exact (perm_set d ys i j x (by simpa using h) (by simpa using h2)).cons y
theorem sdn_perm : ∀ (xs : List (List Int)) (start pos : Nat) (new : List Int), pos < xs.length → (sdn xs start pos new).Perm (xs.set pos new) := by
  intro xs start pos new
  fun_induction sdn xs start pos new with
  | case1 xs pos h1 h2 ih =>
    intro hp
    have ih := ih (by rw [List.length_set]; with_reducible exact pa_n (by assumption))
    exact ih.trans (perm_set [] xs pos ((pos - 1) / 2) _ hp (by with_reducible exact pa_n (by assumption)))
  | case2 xs pos h1 h2 => intro _; exact List.Perm.refl _
  | case3 xs pos h1 => intro _; exact List.Perm.refl _
theorem set_getD_set {xs : List (List Int)} {pos : Nat} {x : List Int} : (xs.set pos x).set pos ((xs.set pos x).getD pos []) = xs.set pos x := by
  rw [List.set_set]
  by_cases h : pos < xs.length
  · have : (xs.set pos x).getD pos [] = x := by simp [h]
    rw [this]
  · rw [List.set_eq_of_length_le (by with_reducible exact Nat.le_of_not_lt (by assumption)), List.set_eq_of_length_le (by with_reducible exact Nat.le_of_not_lt (by assumption))]
theorem sup_perm : ∀ (xs : List (List Int)) (start pos : Nat) (new : List Int), pos < xs.length → (sup xs start pos new).Perm (xs.set pos new) := by
  intro xs start pos new
  fun_induction sup xs start pos new with
  | case1 xs pos h ih =>
    intro hp
    have hc := (child_lt h).1
    exact (ih (by rw [List.length_set]; exact hc)).trans (perm_set [] xs pos _ _ hp hc)
  | case2 xs pos h =>
    intro hp
    have := sdn_perm (xs.set pos new) start pos ((xs.set pos new).getD pos []) (by rw [List.length_set]; exact hp)
    rwa [set_getD_set] at this
theorem getD_set_self {xs : List (List Int)} {i : Nat} {x : List Int} (h : i < xs.length) : (xs.set i x).getD i [] = x := by simp [h]
theorem hpush_perm (xs : List (List Int)) (x : List Int) : (hpush xs x).Perm (x :: xs) := by
  unfold hpush
  have := sdn_perm (xs ++ [x]) 0 xs.length ((xs ++ [x]).getD xs.length []) (by simp)
  have e : (xs ++ [x]).getD xs.length [] = x := by simp
  rw [e] at this ⊢
  rw [List.set_append_right _ _ (Nat.le_refl _)] at this
  simp only [Nat.sub_self, List.set_cons_zero] at this
  exact this.trans (List.perm_append_singleton x xs)
theorem split_last {h : List (List Int)} (hne : h ≠ []) : h = h.dropLast ++ [h.getLastD []] := by
  have e2 : h.getLastD [] = h.getLast hne := by
    cases h with
    | nil => exact absurd rfl hne
    | cons x r => rw [List.getLastD_cons, List.getLast_eq_getLastD]
  rw [e2, List.dropLast_concat_getLast hne]
theorem pop_perm {h : List (List Int)} (hne : h ≠ []) : (popm h :: popr h).Perm h := by
  have e := split_last hne
  unfold popm popr hpop
  generalize h.dropLast = xs at *
  generalize h.getLastD [] = l at *
  split
  · rename_i q; rw [e, q]; exact List.Perm.refl _
  · rename_i q
    have hl : 0 < xs.length := List.length_pos_iff.mpr q
    have h1 := sup_perm (xs.set 0 l) 0 0 ((xs.set 0 l).getD 0 []) (by rw [List.length_set]; exact hl)
    rw [set_getD_set] at h1
    rw [e]
    exact (h1.cons _).trans ((perm_cons_set [] xs 0 l hl).trans (List.perm_append_singleton l xs).symm)
theorem popr_len {h : List (List Int)} (hne : h ≠ []) : (popr h).length + 1 = h.length := by
  have := (pop_perm hne).length_eq; simpa using this
theorem hpush_lens {k : Nat} {xs : List (List Int)} {x : List Int} (h : Lens k xs) (hx : x.length = k) : Lens k (hpush xs x) := fun y hy => by
  rcases List.mem_cons.mp ((hpush_perm _ _).mem_iff.mp hy) with e | e
  · obtain rfl := Eq.symm e; exact hx
  · exact h y e
/-! the heap is a heap -/
noncomputable def leq (a b : List Int) : Prop := lexLt b a = false
theorem lexLt_irrefl : ∀ a : List Int, lexLt a a = false
  | [] => rfl
  | x :: xs => by unfold lexLt; rw [if_pos rfl]; exact lexLt_irrefl xs
theorem leq_refl (a : List Int) : leq a a := lexLt_irrefl a
theorem leq_trans : ∀ {k : Nat} {a b c : List Int}, a.length = k → b.length = k → c.length = k → leq a b → leq b c → leq a c
  | 0, a, b, c, ha, hb, hc, _, _ => by
    rw [List.length_eq_zero_iff.mp ha, List.length_eq_zero_iff.mp hc]; exact leq_refl _
  | k + 1, x :: a, y :: b, z :: c, ha, hb, hc, h1, h2 => by
    unfold leq lexLt at *
    by_cases q1 : y = x
    · subst q1
      by_cases q2 : z = y
      · obtain rfl := Eq.symm q2
        rw [if_pos rfl] at h1 h2 ⊢
        exact leq_trans (by simpa using ha) (by simpa using hb) (by simpa using hc) h1 h2
      · rw [if_neg q2] at h2 ⊢; exact h2
    · rw [if_neg q1] at h1
      have h1 := of_decide_eq_false h1
      by_cases q2 : z = y
      · obtain rfl := Eq.symm q2
        rw [if_neg q1]; exact decide_eq_false (by with_reducible assumption)
      · rw [if_neg q2] at h2
        have h2 := of_decide_eq_false h2
        rw [if_neg (fun e => ii7 h1 q2 h2 e)]; exact decide_eq_false (fun e => ii3 h1 h2 e)
theorem lt_leq : ∀ {k : Nat} {a b : List Int}, a.length = k → b.length = k → lexLt a b = true → leq a b
  | 0, a, b, ha, hb, h => by rw [List.length_eq_zero_iff.mp ha, List.length_eq_zero_iff.mp hb] at h; (first | exact nsF h | exact snF h | obtain rfl := Option.some.inj h | cases h)
  | k + 1, x :: a, y :: b, ha, hb, h => by
    unfold leq
    unfold lexLt at h ⊢
    by_cases q : x = y
    · obtain rfl := Eq.symm q
      rw [if_pos rfl] at h ⊢
      exact lt_leq (k := k) (by simpa using ha) (by simpa using hb) h
    · rw [if_neg q] at h
      rw [if_neg (Ne.symm q)]
      have := of_decide_eq_true h
      exact decide_eq_false (by (intro _; with_reducible exact ii4 (by assumption) (by assumption)))
noncomputable def at' (xs : List (List Int)) (i : Nat) : List Int := xs.getD i []
noncomputable def Hp (xs : List (List Int)) : Prop := ∀ i, 0 < i → i < xs.length → leq (at' xs ((i - 1) / 2)) (at' xs i)
theorem at_set {xs : List (List Int)} {i j : Nat} {x : List Int} (h : i < xs.length) : at' (xs.set i x) j = if j = i then x else at' xs j := by
  unfold at'
  rw [List.getD_eq_getElem?_getD, List.getElem?_set, List.getD_eq_getElem?_getD]
  by_cases q : i = j
  · subst q; simp [h]
  · rw [if_neg q, if_neg (Ne.symm q)]
theorem at_len {k : Nat} {xs : List (List Int)} {i : Nat} (h : Lens k xs) (hi : i < xs.length) : (at' xs i).length = k := h.getD hi
theorem sdn_hp {k : Nat} (xs : List (List Int)) (start pos : Nat) (new : List Int) : start = 0 → Lens k xs → new.length = k → pos < xs.length →
    (∀ i, 0 < i → i < xs.length → i ≠ pos → leq (at' (xs.set pos new) ((i - 1) / 2)) (at' (xs.set pos new) i)) →
    (∀ i, 0 < i → i < xs.length → (i - 1) / 2 = pos → 0 < pos → leq (at' (xs.set pos new) ((pos - 1) / 2)) (at' (xs.set pos new) i)) → Hp (sdn xs start pos new) := by
  fun_induction sdn xs start pos new with
  | case1 xs pos h1 h2 ih =>
    intro h0 hl hn hp H1 H2
    have hpp : (pos - 1) / 2 < xs.length := by with_reducible exact pa_n (by assumption)
    have hne : (pos - 1) / 2 ≠ pos := fun e => pa_irs h1 e
    have hpar : xs.getD ((pos - 1) / 2) [] = at' xs ((pos - 1) / 2) := rfl
    have hlp := at_len hl hpp
    have hlt : leq new (at' xs ((pos - 1) / 2)) := lt_leq hn hlp h2
    have E : ∀ j, at' (xs.set pos new) j = if j = pos then new else at' xs j := fun j => at_set hp
    have E2 : ∀ j, at' ((xs.set pos (xs.getD ((pos - 1) / 2) [])).set ((pos - 1) / 2) new) j = if j = (pos - 1) / 2 then new else if j = pos then at' xs ((pos - 1) / 2) else at' xs j := fun j => by
      rw [at_set (by rw [List.length_set]; exact hpp), at_set hp]; rfl
    refine ih h0 (hl.set hlp) hn (by rw [List.length_set]; exact hpp) (fun i hi hil hin => ?_) (fun i hi hil hip hpos => ?_)
    · rw [List.length_set] at hil
      rw [E2, E2, if_neg hin]
      by_cases q : i = pos
      · subst q
        rw [if_pos rfl, if_pos rfl]; exact hlt
      · rw [if_neg q]
        have a := H1 i hi hil q
        rw [E, E, if_neg q] at a
        by_cases q2 : (i - 1) / 2 = (pos - 1) / 2
        · rw [if_pos q2]
          rw [if_neg (fun e => hne (q2.symm.trans e)), q2] at a
          exact leq_trans hn hlp (at_len hl hil) hlt a
        · rw [if_neg q2]
          by_cases q3 : (i - 1) / 2 = pos
          · rw [if_pos q3]
            have b := H2 i hi hil q3 (by with_reducible exact Nat.lt_of_le_of_lt (Nat.le_of_eq (Eq.symm (by assumption))) (by assumption))
            rw [E, E, if_neg hne, if_neg q] at b
            exact b
          · rw [if_neg q3]; rw [if_neg q3] at a; exact a
    · rw [List.length_set] at hil
      rw [E2, E2, if_neg (by (intro _; with_reducible exact pa_irr (by assumption) (by assumption))), if_neg (by (intro _; with_reducible exact pa_pa (by assumption) (by assumption))), if_neg (by (intro _; with_reducible exact pa_ir2 (by assumption) (by assumption) (by assumption)))]
      have a := H1 ((pos - 1) / 2) hpos hpp hne
      rw [E, E, if_neg hne, if_neg (by (intro _; with_reducible exact pa_pa (by assumption) (by assumption)))] at a
      by_cases q : i = pos
      · rw [if_pos q]; exact a
      · rw [if_neg q]
        have b := H1 i hi hil q
        rw [E, E, if_neg q, if_neg (fun e => hne (hip.symm.trans e)), hip] at b
        exact leq_trans (at_len hl (by with_reducible exact pa_n (by assumption))) hlp (at_len hl hil) a b
  | case2 xs pos h1 h2 =>
    intro h0 hl hn hp H1 H2 i hi hil
    rw [List.length_set] at hil
    by_cases q : i = pos
    · subst q
      have hlp := at_len hl (show (i - 1) / 2 < xs.length by with_reducible exact pa_n (by assumption))
      rw [at_set hp, at_set hp, if_neg (by (intro _; with_reducible exact pa_irr (by assumption) (by assumption))), if_pos rfl]
      unfold leq
      cases e : lexLt new (at' xs ((i - 1) / 2)) with
      | false => rfl
      | true => exact absurd e h2
    · exact H1 i hi hil q
  | case3 xs pos h1 =>
    intro h0 hl hn hp H1 H2 i hi hil
    rw [List.length_set] at hil
    exact H1 i hi hil (fun e => h1 (by rw [h0, ← e]; exact hi))
/-- a heap but for the hole at pos -/
noncomputable def Hole (xs : List (List Int)) (pos : Nat) : Prop := (∀ i, 0 < i → i < xs.length → i ≠ pos → (i - 1) / 2 ≠ pos → leq (at' xs ((i - 1) / 2)) (at' xs i)) ∧
  ∀ i, 0 < i → i < xs.length → (i - 1) / 2 = pos → 0 < pos → leq (at' xs ((pos - 1) / 2)) (at' xs i)
theorem sup_hp {k : Nat} (xs : List (List Int)) (start pos : Nat) (new : List Int) : start = 0 → Lens k xs → new.length = k → pos < xs.length → Hole xs pos → Hp (sup xs start pos new) := by
  fun_induction sup xs start pos new with
  | case1 xs pos h ih =>
    intro h0 hl hn hp ⟨H1, H2⟩
    obtain ⟨c1, c2⟩ := child_lt h
    have hcp : (child xs (2 * pos + 1) - 1) / 2 = pos ∧ (child xs (2 * pos + 1) = 2 * pos + 1 ∨ child xs (2 * pos + 1) = 2 * pos + 2) := by unfold child; split <;> (first | with_reducible exact kidLo _ | with_reducible exact kidRo _)
    have hmin : ∀ i, 0 < i → i < xs.length → (i - 1) / 2 = pos → leq (at' xs (child xs (2 * pos + 1))) (at' xs i) := fun i hi hil hip => by
      have hi2 : i = 2 * pos + 1 ∨ i = 2 * pos + 2 := by with_reducible exact pa_kid (by assumption) (by assumption)
      by_cases q : 2 * pos + 1 + 1 < xs.length ∧ lexLt (xs.getD (2 * pos + 1) []) (xs.getD (2 * pos + 1 + 1) []) = false
      · have e : child xs (2 * pos + 1) = 2 * pos + 1 + 1 := by unfold child; rw [if_pos q]
        rw [e]
        rcases hi2 with rfl | rfl
        · exact q.2
        · exact leq_refl _
      · have e : child xs (2 * pos + 1) = 2 * pos + 1 := by unfold child; rw [if_neg q]
        rw [e]
        rcases hi2 with rfl | rfl
        · exact leq_refl _
        · have hb : lexLt (xs.getD (2 * pos + 1) []) (xs.getD (2 * pos + 1 + 1) []) = true := by
            cases z : lexLt (xs.getD (2 * pos + 1) []) (xs.getD (2 * pos + 1 + 1) []) with
            | true => rfl
            | false => exact absurd ⟨hil, z⟩ q
          exact lt_leq (at_len hl h) (at_len hl hil) hb
    generalize child xs (2 * pos + 1) = c at *
    have hlc := at_len hl c1
    have E : ∀ j, at' (xs.set pos (xs.getD c [])) j = if j = pos then at' xs c else at' xs j := fun j => at_set hp
    refine ih h0 (hl.set hlc) hn (by rw [List.length_set]; exact c1) ⟨fun i hi hil hin hip => ?_, fun i hi hil hip hc0 => ?_⟩
    · rw [List.length_set] at hil
      rw [E, E]
      by_cases q : i = pos
      · obtain rfl := Eq.symm q
        rw [if_pos rfl, if_neg (by (intro _; with_reducible exact pa_irr (by assumption) (by assumption)))]
        exact H2 c (by with_reducible exact kid_pos (by assumption)) c1 hcp.1 hi
      · rw [if_neg q]
        by_cases q2 : (i - 1) / 2 = pos
        · rw [if_pos q2]; exact hmin i hi hil q2
        · rw [if_neg q2]; exact H1 i hi hil q q2
    · rw [List.length_set] at hil
      rw [hcp.1, E, E, if_pos rfl, if_neg (fun e => kid_no1 c2 hi hip e)]
      have a := H1 i hi hil (fun e => kid_no1 c2 hi hip e) (by (intro _; with_reducible exact kid_no2 (by assumption) (by assumption) (by assumption)))
      rw [hip] at a; exact a
  | case2 xs pos h =>
    intro h0 hl hn hp ⟨H1, H2⟩
    have e : (xs.set pos new).getD pos [] = new := getD_set_self hp
    rw [e]
    have E : ∀ j, at' ((xs.set pos new).set pos new) j = if j = pos then new else at' xs j := fun j => by rw [List.set_set]; exact at_set hp
    refine sdn_hp _ _ _ _ h0 (hl.set hn) hn (by rw [List.length_set]; exact hp) (fun i hi hil hin => ?_) (fun i hi hil hip _ => ?_)
    · rw [List.length_set] at hil
      rw [E, E, if_neg hin, if_neg (by (intro _; with_reducible exact kid_big (by assumption) (by assumption) (by assumption) (by assumption)))]
      exact H1 i hi hil hin (by (intro _; with_reducible exact kid_big (by assumption) (by assumption) (by assumption) (by assumption)))
    · rw [List.length_set] at hil; exact (kid_big h hi hil hip).elim
theorem at_append_left {xs ys : List (List Int)} {i : Nat} (h : i < xs.length) : at' (xs ++ ys) i = at' xs i := by
  unfold at'; rw [List.getD_eq_getElem?_getD, List.getElem?_append_left h, List.getD_eq_getElem?_getD]
theorem hpush_hp {k : Nat} {xs : List (List Int)} {x : List Int} (hl : Lens k xs) (hx : x.length = k) (h : Hp xs) : Hp (hpush xs x) := by
  unfold hpush
  have e : (xs ++ [x]).getD xs.length [] = x := by simp
  have hl2 : Lens k (xs ++ [x]) := fun y hy => by
    rcases List.mem_append.mp hy with q | q
    · exact hl y q
    · simp at q; rw [q]; exact hx
  rw [e]
  refine sdn_hp (k := k) _ _ _ _ rfl hl2 hx (by simp) (fun i hi hil hin => ?_) (fun i hi hil hip _ => ?_)
  · rw [List.length_append, List.length_singleton] at hil
    rw [at_set (by simp), at_set (by simp), if_neg hin, if_neg (by (intro _; with_reducible exact pa_ns (by assumption) (by assumption) (by assumption))), at_append_left (by with_reducible exact pa_s (by assumption) (by assumption)), at_append_left (by with_reducible exact Nat.lt_of_le_of_ne (Nat.le_of_lt_succ (by assumption)) (by assumption))]
    exact h i hi (by with_reducible exact Nat.lt_of_le_of_ne (Nat.le_of_lt_succ (by assumption)) (by assumption))
  · rw [List.length_append, List.length_singleton] at hil; exact (pa_ns hi hil hip).elim
theorem hp_min {k : Nat} {xs : List (List Int)} (hl : Lens k xs) (h : Hp xs) : ∀ i, i < xs.length → leq (at' xs 0) (at' xs i) := by
  intro i
  induction i using Nat.strongRecOn with
  | ind i ih =>
    intro hi
    by_cases q : i = 0
    · obtain rfl := Eq.symm q; exact leq_refl _
    · have a := ih ((i - 1) / 2) (by with_reducible exact pa_nz (by assumption)) (by with_reducible exact pa_n (by assumption))
      have b := h i (by with_reducible exact Nat.pos_of_ne_zero (by assumption)) hi
      exact leq_trans (at_len hl (Nat.lt_of_le_of_lt (Nat.zero_le _) hi)) (at_len hl (by with_reducible exact pa_n (by assumption))) (at_len hl hi) a b
theorem pop_hp {k : Nat} {h : List (List Int)} (hl : Lens k h) (hp : Hp h) (hne : h ≠ []) : Hp (popr h) ∧ ∀ x ∈ h, leq (popm h) x := by
  have e := split_last hne
  have hlen := List.length_pos_iff.mpr hne
  have hmem : ∀ x ∈ h, ∃ i, i < h.length ∧ at' h i = x := fun x hx => by
    obtain ⟨i, hi, e⟩ := List.mem_iff_getElem.mp hx
    exact ⟨i, hi, by unfold at'; rw [List.getD_eq_getElem?_getD, List.getElem?_eq_getElem hi]; exact e⟩
  have hm : popm h = at' h 0 := by
    unfold popm hpop
    generalize h.dropLast = xs at *
    generalize h.getLastD [] = l at *
    obtain rfl := Eq.symm e
    split
    · rename_i q; obtain rfl := Eq.symm q; rfl
    · rename_i q
      rw [at_append_left (List.length_pos_iff.mpr q)]; rfl
  refine ⟨?_, fun x hx => ?_⟩
  · unfold popr hpop
    generalize h.dropLast = xs at *
    generalize h.getLastD [] = l at *
    obtain rfl := Eq.symm e
    split
    · intro i hi hil; simp at hil
    · rename_i q
      have hx0 : 0 < xs.length := List.length_pos_iff.mpr q
      have hlx : Lens k xs := fun y hy => hl y (by simp [hy])
      have hll : l.length = k := hl l (by simp)
      refine sup_hp (k := k) _ _ _ _ rfl (hlx.set hll) (by rw [getD_set_self hx0]; exact hll) (by rw [List.length_set]; exact hx0) ⟨fun i hi hil hin hip => ?_, fun i _ _ _ hc => absurd hc (by decide)⟩
      rw [List.length_set] at hil
      rw [at_set hx0, at_set hx0, if_neg hin, if_neg hip]
      have := hp i hi (by rw [List.length_append]; with_reducible exact Nat.lt_add_right _ (by assumption))
      rw [at_append_left (by with_reducible exact pa_n (by assumption)), at_append_left hil] at this
      exact this
  · obtain ⟨i, hi, rfl⟩ := hmem x hx
    rw [hm]; exact hp_min hl hp i hi
theorem leq_fst {a b c d : Nat} (h : leq [(a : Int), (b : Int)] [(c : Int), (d : Int)]) : a ≤ c := by
  unfold leq lexLt at h
  by_cases q : (c : Int) = a
  · with_reducible exact z10 (by assumption)
  · rw [if_neg q] at h
    have := of_decide_eq_false h
    with_reducible exact Nat.le_of_not_lt (mt Int.ofNat_lt.mpr (by assumption))
end
section
/-! a heap with the greatest on top -/
noncomputable def geq (a b : List Int) : Prop := leq b a
theorem geq_refl (a : List Int) : geq a a := leq_refl a
theorem geq_trans {k : Nat} {a b c : List Int} (ha : a.length = k) (hb : b.length = k) (hc : c.length = k) (h1 : geq a b) (h2 : geq b c) : geq a c := leq_trans hc hb ha h2 h1
theorem lt_geq {k : Nat} {a b : List Int} (ha : a.length = k) (hb : b.length = k) (h : lexLt b a = true) : geq a b := lt_leq hb ha h
noncomputable def HpM (xs : List (List Int)) : Prop := ∀ i, 0 < i → i < xs.length → geq (at' xs ((i - 1) / 2)) (at' xs i)
theorem sdnM_perm : ∀ (xs : List (List Int)) (start pos : Nat) (new : List Int), pos < xs.length → (sdnM xs start pos new).Perm (xs.set pos new) := by
  intro xs start pos new
  fun_induction sdnM xs start pos new with
  | case1 xs pos h1 h2 ih =>
    intro hp
    have ih := ih (by rw [List.length_set]; with_reducible exact pa_n (by assumption))
    exact ih.trans (perm_set [] xs pos ((pos - 1) / 2) _ hp (by with_reducible exact pa_n (by assumption)))
  | case2 xs pos h1 h2 => intro _; exact List.Perm.refl _
  | case3 xs pos h1 => intro _; exact List.Perm.refl _
theorem supM_perm : ∀ (xs : List (List Int)) (start pos : Nat) (new : List Int), pos < xs.length → (supM xs start pos new).Perm (xs.set pos new) := by
  intro xs start pos new
  fun_induction supM xs start pos new with
  | case1 xs pos h ih =>
    intro hp
    have hc := (childM_lt h).1
    exact (ih (by rw [List.length_set]; exact hc)).trans (perm_set [] xs pos _ _ hp hc)
  | case2 xs pos h =>
    intro hp
    have := sdnM_perm (xs.set pos new) start pos ((xs.set pos new).getD pos []) (by rw [List.length_set]; exact hp)
    rwa [set_getD_set] at this
theorem sdnM_hp {k : Nat} (xs : List (List Int)) (start pos : Nat) (new : List Int) : start = 0 → Lens k xs → new.length = k → pos < xs.length →
    (∀ i, 0 < i → i < xs.length → i ≠ pos → geq (at' (xs.set pos new) ((i - 1) / 2)) (at' (xs.set pos new) i)) →
    (∀ i, 0 < i → i < xs.length → (i - 1) / 2 = pos → 0 < pos → geq (at' (xs.set pos new) ((pos - 1) / 2)) (at' (xs.set pos new) i)) → HpM (sdnM xs start pos new) := by
  fun_induction sdnM xs start pos new with
  | case1 xs pos h1 h2 ih =>
    intro h0 hl hn hp H1 H2
    have hpp : (pos - 1) / 2 < xs.length := by with_reducible exact pa_n (by assumption)
    have hne : (pos - 1) / 2 ≠ pos := fun e => pa_irs h1 e
    have hpar : xs.getD ((pos - 1) / 2) [] = at' xs ((pos - 1) / 2) := rfl
    have hlp := at_len hl hpp
    have hlt : geq new (at' xs ((pos - 1) / 2)) := lt_geq hn hlp h2
    have E : ∀ j, at' (xs.set pos new) j = if j = pos then new else at' xs j := fun j => at_set hp
    have E2 : ∀ j, at' ((xs.set pos (xs.getD ((pos - 1) / 2) [])).set ((pos - 1) / 2) new) j = if j = (pos - 1) / 2 then new else if j = pos then at' xs ((pos - 1) / 2) else at' xs j := fun j => by
      rw [at_set (by rw [List.length_set]; exact hpp), at_set hp]; rfl
    refine ih h0 (hl.set hlp) hn (by rw [List.length_set]; exact hpp) (fun i hi hil hin => ?_) (fun i hi hil hip hpos => ?_)
    · rw [List.length_set] at hil
      rw [E2, E2, if_neg hin]
      by_cases q : i = pos
      · subst q
        rw [if_pos rfl, if_pos rfl]; exact hlt
      · rw [if_neg q]
        have a := H1 i hi hil q
        rw [E, E, if_neg q] at a
        by_cases q2 : (i - 1) / 2 = (pos - 1) / 2
        · rw [if_pos q2]
          rw [if_neg (fun e => hne (q2.symm.trans e)), q2] at a
          exact geq_trans hn hlp (at_len hl hil) hlt a
        · rw [if_neg q2]
          by_cases q3 : (i - 1) / 2 = pos
          · rw [if_pos q3]
            have b := H2 i hi hil q3 (by with_reducible exact Nat.lt_of_le_of_lt (Nat.le_of_eq (Eq.symm (by assumption))) (by assumption))
            rw [E, E, if_neg hne, if_neg q] at b
            exact b
          · rw [if_neg q3]; rw [if_neg q3] at a; exact a
    · rw [List.length_set] at hil
      rw [E2, E2, if_neg (by (intro _; with_reducible exact pa_irr (by assumption) (by assumption))), if_neg (by (intro _; with_reducible exact pa_pa (by assumption) (by assumption))), if_neg (by (intro _; with_reducible exact pa_ir2 (by assumption) (by assumption) (by assumption)))]
      have a := H1 ((pos - 1) / 2) hpos hpp hne
      rw [E, E, if_neg hne, if_neg (by (intro _; with_reducible exact pa_pa (by assumption) (by assumption)))] at a
      by_cases q : i = pos
      · rw [if_pos q]; exact a
      · rw [if_neg q]
        have b := H1 i hi hil q
        rw [E, E, if_neg q, if_neg (fun e => hne (hip.symm.trans e)), hip] at b
        exact geq_trans (at_len hl (by with_reducible exact pa_n (by assumption))) hlp (at_len hl hil) a b
  | case2 xs pos h1 h2 =>
    intro h0 hl hn hp H1 H2 i hi hil
    rw [List.length_set] at hil
    by_cases q : i = pos
    · subst q
      have hlp := at_len hl (show (i - 1) / 2 < xs.length by with_reducible exact pa_n (by assumption))
      rw [at_set hp, at_set hp, if_neg (by (intro _; with_reducible exact pa_irr (by assumption) (by assumption))), if_pos rfl]
      unfold geq leq
      cases e : lexLt (at' xs ((i - 1) / 2)) new with
      | false => rfl
      | true => exact absurd e h2
    · exact H1 i hi hil q
  | case3 xs pos h1 =>
    intro h0 hl hn hp H1 H2 i hi hil
    rw [List.length_set] at hil
    exact H1 i hi hil (fun e => h1 (by rw [h0, ← e]; exact hi))
/-- a heap but for the hole at pos -/
noncomputable def HoleM (xs : List (List Int)) (pos : Nat) : Prop := (∀ i, 0 < i → i < xs.length → i ≠ pos → (i - 1) / 2 ≠ pos → geq (at' xs ((i - 1) / 2)) (at' xs i)) ∧
  ∀ i, 0 < i → i < xs.length → (i - 1) / 2 = pos → 0 < pos → geq (at' xs ((pos - 1) / 2)) (at' xs i)
theorem supM_hp {k : Nat} (xs : List (List Int)) (start pos : Nat) (new : List Int) : start = 0 → Lens k xs → new.length = k → pos < xs.length → HoleM xs pos → HpM (supM xs start pos new) := by
  fun_induction supM xs start pos new with
  | case1 xs pos h ih =>
    intro h0 hl hn hp ⟨H1, H2⟩
    obtain ⟨c1, c2⟩ := childM_lt h
    have hcp : (childM xs (2 * pos + 1) - 1) / 2 = pos ∧ (childM xs (2 * pos + 1) = 2 * pos + 1 ∨ childM xs (2 * pos + 1) = 2 * pos + 2) := by unfold childM; split <;> (first | with_reducible exact kidLo _ | with_reducible exact kidRo _)
    have hmin : ∀ i, 0 < i → i < xs.length → (i - 1) / 2 = pos → geq (at' xs (childM xs (2 * pos + 1))) (at' xs i) := fun i hi hil hip => by
      have hi2 : i = 2 * pos + 1 ∨ i = 2 * pos + 2 := by with_reducible exact pa_kid (by assumption) (by assumption)
      by_cases q : 2 * pos + 1 + 1 < xs.length ∧ lexLt (xs.getD (2 * pos + 1 + 1) []) (xs.getD (2 * pos + 1) []) = false
      · have e : childM xs (2 * pos + 1) = 2 * pos + 1 + 1 := by unfold childM; rw [if_pos q]
        rw [e]
        rcases hi2 with rfl | rfl
        · exact q.2
        · exact geq_refl _
      · have e : childM xs (2 * pos + 1) = 2 * pos + 1 := by unfold childM; rw [if_neg q]
        rw [e]
        rcases hi2 with rfl | rfl
        · exact geq_refl _
        · have hb : lexLt (xs.getD (2 * pos + 1 + 1) []) (xs.getD (2 * pos + 1) []) = true := by
            cases z : lexLt (xs.getD (2 * pos + 1 + 1) []) (xs.getD (2 * pos + 1) []) with
            | true => rfl
            | false => exact absurd ⟨hil, z⟩ q
          exact lt_geq (at_len hl h) (at_len hl hil) hb
    generalize childM xs (2 * pos + 1) = c at *
    have hlc := at_len hl c1
    have E : ∀ j, at' (xs.set pos (xs.getD c [])) j = if j = pos then at' xs c else at' xs j := fun j => at_set hp
    refine ih h0 (hl.set hlc) hn (by rw [List.length_set]; exact c1) ⟨fun i hi hil hin hip => ?_, fun i hi hil hip hc0 => ?_⟩
    · rw [List.length_set] at hil
      rw [E, E]
      by_cases q : i = pos
      · obtain rfl := Eq.symm q
        rw [if_pos rfl, if_neg (by (intro _; with_reducible exact pa_irr (by assumption) (by assumption)))]
        exact H2 c (by with_reducible exact kid_pos (by assumption)) c1 hcp.1 hi
      · rw [if_neg q]
        by_cases q2 : (i - 1) / 2 = pos
        · rw [if_pos q2]; exact hmin i hi hil q2
        · rw [if_neg q2]; exact H1 i hi hil q q2
    · rw [List.length_set] at hil
      rw [hcp.1, E, E, if_pos rfl, if_neg (fun e => kid_no1 c2 hi hip e)]
      have a := H1 i hi hil (fun e => kid_no1 c2 hi hip e) (by (intro _; with_reducible exact kid_no2 (by assumption) (by assumption) (by assumption)))
      rw [hip] at a; exact a
  | case2 xs pos h =>
    intro h0 hl hn hp ⟨H1, H2⟩
    have e : (xs.set pos new).getD pos [] = new := getD_set_self hp
    rw [e]
    have E : ∀ j, at' ((xs.set pos new).set pos new) j = if j = pos then new else at' xs j := fun j => by rw [List.set_set]; exact at_set hp
    refine sdnM_hp _ _ _ _ h0 (hl.set hn) hn (by rw [List.length_set]; exact hp) (fun i hi hil hin => ?_) (fun i hi hil hip _ => ?_)
    · rw [List.length_set] at hil
      rw [E, E, if_neg hin, if_neg (by (intro _; with_reducible exact kid_big (by assumption) (by assumption) (by assumption) (by assumption)))]
      exact H1 i hi hil hin (by (intro _; with_reducible exact kid_big (by assumption) (by assumption) (by assumption) (by assumption)))
    · rw [List.length_set] at hil; exact (kid_big h hi hil hip).elim
end
section
/-! Kademlia's search -/
theorem log2_of {w i : Nat} (h : w.testBit i = true) (k : ∀ j, i < j → w.testBit j = false) : w.log2 = i := by
  have hw : w ≠ 0 := fun e => by obtain rfl := Eq.symm e; rw [Nat.zero_testBit] at h; (first | exact nsF h | exact snF h | obtain rfl := Option.some.inj h | cases h)
  rcases Nat.lt_trichotomy w.log2 i with q | q | q
  · rw [tb_above q] at h; (first | exact nsF h | exact snF h | obtain rfl := Option.some.inj h | cases h)
  · exact q
  · have := k _ q; rw [tb_log hw] at this; (first | exact nsF this | exact snF this | obtain rfl := Option.some.inj this | cases this)
theorem log2_xor {u v : Nat} (h : u.log2 < v.log2) : (u ^^^ v).log2 = v.log2 := by
  have hv : v ≠ 0 := fun e => by obtain rfl := Eq.symm e; simp at h
  refine log2_of ?_ fun j hj => ?_
  · rw [Nat.testBit_xor, tb_above h, tb_log hv]; rfl
  · rw [Nat.testBit_xor, tb_above (Nat.lt_trans h hj), tb_above hj]; rfl
/-- x parts from p above where y does -/
theorem nearer_top {x y p t : Nat} (h : (y ^^^ p).log2 < (x ^^^ p).log2) : x ^^^ t < y ^^^ t ↔ (p ^^^ t).testBit (x ^^^ p).log2 = true := by
  have hxy : x ≠ y := fun e => by obtain rfl := Eq.symm e; with_reducible exact absurd (by assumption) (Nat.lt_asymm (by assumption))
  have e : (x ^^^ y).log2 = (x ^^^ p).log2 := by
    rw [← xor_cancel x y p, Nat.xor_comm]; exact log2_xor h
  rw [nearer_iff hxy, e]
  have e2 : y ^^^ t = (y ^^^ p) ^^^ (p ^^^ t) := by rw [Nat.xor_comm p t, xor_cancel]
  rw [e2, Nat.testBit_xor, tb_above h, Bool.false_xor]
noncomputable def nar (M : Nat) : Option Nat → List (Nat × Nat) → Bool
  | _, [] => false
  | pv, (o, k) :: r => if 0 < k ∨ (∃ a, pv = some a ∧ br a o M = false) then false else if o = M then true else nar M (some o) r
noncomputable def pass (M : Nat) : Option Nat → List (Nat × Nat) → Prop
  | _, [] => True
  | pv, (o, k) :: r => k = 0 ∧ (∀ a, pv = some a → br a o M = true) ∧ o ≠ M ∧ pass M (some o) r
noncomputable def lastO : Option Nat → List (Nat × Nat) → Option Nat
  | pv, [] => pv
  | _, (o, _) :: r => lastO (some o) r
theorem nar_append {M : Nat} : ∀ {l : List (Nat × Nat)} {pv : Option Nat} (r : List (Nat × Nat)), nar M pv l = true → nar M pv (l ++ r) = true
  | [], _, _, h => by (first | exact nsF h | exact snF h | obtain rfl := Option.some.inj h | cases h)
  | (o, k) :: l, pv, r, h => by
    rw [List.cons_append]
    unfold nar at h ⊢
    split at h
    · (first | exact nsF h | exact snF h | obtain rfl := Option.some.inj h | cases h)
    · rename_i c
      rw [if_neg c]
      split at h
      · rename_i e; rw [if_pos e]
      · rename_i e; rw [if_neg e]; exact nar_append r h
theorem pass_append {M o : Nat} : ∀ {l : List (Nat × Nat)} {pv : Option Nat}, pass M pv l → (∀ a, lastO pv l = some a → br a o M = true) → (o = M → nar M pv (l ++ [(o, 0)]) = true) ∧ (o ≠ M → pass M pv (l ++ [(o, 0)])) ∧ lastO pv (l ++ [(o, 0)]) = some o
  | [], pv, _, hb => by
    refine ⟨fun e => ?_, fun e => ⟨rfl, hb, e, trivial⟩, rfl⟩
    show nar M pv [(o, 0)] = true
    unfold nar
    rw [if_neg (by rintro (q | ⟨a, q, r⟩); exact absurd q (by decide); rw [hb a q] at r; (first | exact nsF r | exact snF r | obtain rfl := Option.some.inj r | cases r)), if_pos e]
  | (o', k) :: l, pv, ⟨h1, h2, h3, h4⟩, hb => by
    obtain ⟨a1, a2, a3⟩ := pass_append (o := o) h4 hb
    refine ⟨fun e => ?_, fun e => ⟨h1, h2, h3, a2 e⟩, a3⟩
    rw [List.cons_append]
    unfold nar
    rw [if_neg (by rintro (q | ⟨a, q, r⟩); exact absurd q (by with_reducible exact (tX (by assumption) (by assumption)).elim); rw [h2 a q] at r; (first | exact nsF r | exact snF r | obtain rfl := Option.some.inj r | cases r)), if_neg h3]
    exact a1 e
noncomputable def itm (t x : Nat) : List Int := [((x ^^^ t : Nat) : Int), (x : Int)]
structure St2 where
  heap : List (List Int)
  known : List Nat
  asked : List (Nat × Nat)
noncomputable def tell1 (t : Nat) (st : List (List Int) × List Nat) (x : Nat) : List (List Int) × List Nat := if x ∈ st.2 then st else (hpush st.1 (itm t x), st.2 ++ [x])
noncomputable def stepQ (t : Nat) (st : St2) (R : List Nat) : St2 :=
  ⟨(R.foldl (tell1 t) (popr st.heap, st.known)).1, (R.foldl (tell1 t) (popr st.heap, st.known)).2, st.asked ++ [(((popm st.heap).getD 1 0).toNat, nearN t st.known ((popm st.heap).getD 0 0).toNat)]⟩
theorem tell_ok {t : Nat} : ∀ (R : List Nat) (h : List (List Int)) (K V : List Nat), h.Perm (V.map (itm t)) → Hp h → Lens 2 h → (∀ x ∈ V, x ∈ K) →
    ∃ A, (R.foldl (tell1 t) (h, K)).2 = K ++ A ∧ (R.foldl (tell1 t) (h, K)).1.Perm ((V ++ A).map (itm t)) ∧ Hp (R.foldl (tell1 t) (h, K)).1 ∧ Lens 2 (R.foldl (tell1 t) (h, K)).1 ∧ A.Nodup ∧ (∀ x ∈ A, x ∉ K ∧ x ∈ R) ∧ ∀ x ∈ R, x ∈ K ++ A
  | [], h, K, V, p, a, b, _ => ⟨[], by simp, by simpa using p, a, b, List.nodup_nil, by simp, by simp⟩
  | x :: R, h, K, V, p, a, b, hv => by
    rw [List.foldl_cons]
    by_cases q : x ∈ K
    · have e : tell1 t (h, K) x = (h, K) := if_pos q
      rw [e]
      obtain ⟨A, a1, a2, a3, a4, a5, a6, a7⟩ := tell_ok R h K V p a b hv
      refine ⟨A, a1, a2, a3, a4, a5, fun y hy => ⟨(a6 y hy).1, by simp [(a6 y hy).2]⟩, fun y hy => ?_⟩
      rcases List.mem_cons.mp hy with r | r
      · obtain rfl := Eq.symm r; simp [q]
      · exact a7 y r
    · have e : tell1 t (h, K) x = (hpush h (itm t x), K ++ [x]) := if_neg q
      rw [e]
      obtain ⟨A, a1, a2, a3, a4, a5, a6, a7⟩ := tell_ok R (hpush h (itm t x)) (K ++ [x]) (V ++ [x]) (by
        refine (hpush_perm _ _).trans ((p.cons _).trans ?_)
        rw [List.map_append]
        exact (List.perm_append_singleton (itm t x) (V.map (itm t))).symm) (hpush_hp b rfl a) (hpush_lens b rfl) (fun y hy => by
          rcases List.mem_append.mp hy with r | r
          · simp [hv y r]
          · simp at r; simp [r])
      refine ⟨x :: A, by rw [a1]; simp, by simpa using a2, a3, a4, ?_, fun y hy => ?_, fun y hy => ?_⟩
      · rw [List.nodup_cons]; exact ⟨fun z => (a6 x z).1 (by simp), a5⟩
      · rcases List.mem_cons.mp hy with r | r
        · obtain rfl := Eq.symm r; exact ⟨q, by simp⟩
        · exact ⟨fun z => (a6 y r).1 (by simp [z]), by simp [(a6 y r).2]⟩
      · rcases List.mem_cons.mp hy with r | r
        · obtain rfl := Eq.symm r; simp
        · have := a7 y r; simpa using this
end
section
structure Net (N : List Nat) (few t M : Nat) (T row : Nat → List Nat) : Prop where
  few0 : 0 < few
  nd : N.Nodup
  MN : M ∈ N
  Mm : ∀ x ∈ N, M ^^^ t ≤ x ^^^ t
  rw_ : ∀ a ∈ N, (row a).Perm N
  tb : ∀ a ∈ N, Tb a few (row a) (T a)
structure KJ (N : List Nat) (few t M : Nat) (T : Nat → List Nat) (st : St2) : Prop where
  kn : st.known.Nodup
  ks : ∀ x ∈ st.known, x ∈ N
  hp : Hp st.heap
  l2 : Lens 2 st.heap
  un : ∃ U : List Nat, U.Nodup ∧ st.heap.Perm (U.map (itm t)) ∧ ∀ x, x ∈ U ↔ x ∈ st.known ∧ x ∉ st.asked.map (·.1)
  os : ∀ x ∈ st.asked.map (·.1), x ∈ st.known
  an : ∀ a ∈ st.asked.map (·.1), ∃ R, Nsm few t (T a) R ∧ ∀ x ∈ R, x ∈ st.known
  ph : nar M none st.asked = true ∨ (pass M none st.asked ∧ ∃ x ∈ st.known, x ∉ st.asked.map (·.1) ∧ (∀ y ∈ st.known, x ^^^ t ≤ y ^^^ t) ∧ ∀ a, lastO none st.asked = some a → br a x M = true)
section
variable {N : List Nat} {few t M : Nat} {T row : Nat → List Nat}
theorem KJ.init {s : Nat} (hs : s ∈ N) : KJ N few t M T ⟨[itm t s], [s], []⟩ where
  kn := by simp
  ks := fun x hx => by simp at hx; rw [hx]; exact hs
  hp := fun i h0 h1 => by simp at h1; with_reducible exact (tX (by assumption) (by assumption)).elim
  l2 := fun x hx => by simp at hx; rw [hx]; rfl
  un := ⟨[s], by simp, List.Perm.refl _, fun x => by simp⟩
  os := fun x hx => by simp at hx
  an := fun x hx => by simp at hx
  ph := .inr ⟨trivial, s, by simp, by simp, fun y hy => by simp at hy; rw [hy]; exact Nat.le_refl _, fun a h => by (first | exact nsF h | exact snF h | obtain rfl := Option.some.inj h | cases h)⟩
/-- one told by p, the nearest of its table, lies in one branch with the nearest of all -/
theorem told_narrows (X : Net N few t M T row) {p : Nat} (hp : p ∈ N) (hpM : p ≠ M) {R : List Nat} (hR : Nsm few t (T p) R) :
    ∃ x ∈ R, (∀ z ∈ R, x ^^^ t ≤ z ^^^ t) ∧ x ^^^ t < p ^^^ t ∧ br p x M = true := by
  have B := X.tb p hp
  have hrow := X.rw_ p hp
  have hMp : M ≠ p := Ne.symm hpM
  have hMlt : M ^^^ t < p ^^^ t := by
    have := X.Mm p hp
    rcases Nat.lt_or_ge (M ^^^ t) (p ^^^ t) with q | q
    · exact q
    · exact absurd (xor_inj (Nat.le_antisymm this q)) hMp
  have hbit := (nearer_iff hMp).mp hMlt
  obtain ⟨y, hy, hyl⟩ : ∃ y ∈ T p, (y ^^^ p).log2 = (M ^^^ p).log2 := by
    rcases B.full M (hrow.mem_iff.mpr X.MN) hMp with q | q
    · exact ⟨M, q, rfl⟩
    · obtain ⟨y, hy⟩ := List.exists_mem_of_length_pos (Nat.lt_of_lt_of_le X.few0 q)
      rw [List.mem_filter] at hy
      exact ⟨y, hy.1, (br_iff (B.sub y hy.1).2 hMp).mp hy.2⟩
  have hyp := (B.sub y hy).2
  have hylt : y ^^^ t < p ^^^ t := by rw [nearer_iff hyp, hyl]; exact hbit
  cases R with
  | nil =>
    have := hR.len
    have h2 := List.length_pos_of_mem hy
    have h3 := X.few0
    simp only [List.length_nil] at this
    with_reducible exact (tn1 (by assumption) (by assumption) (by assumption)).elim
  | cons x R =>
    have hx := List.pairwise_cons.mp hR.asc
    have hxR : ∀ z ∈ x :: R, x ^^^ t ≤ z ^^^ t := fun z hz => by
      rcases List.mem_cons.mp hz with q | q
      · rw [q]; exact Nat.le_refl _
      · exact Nat.le_of_lt (hx.1 z q)
    have hxT : ∀ z ∈ T p, x ^^^ t ≤ z ^^^ t := fun z hz => by
      rcases Decidable.em (z ∈ x :: R) with q | q
      · exact hxR z q
      · exact Nat.le_of_lt (hR.far z hz q x (by simp))
    have hxp : x ^^^ t < p ^^^ t := Nat.lt_of_le_of_lt (hxT y hy) hylt
    have hxT' := B.sub x (hR.sub x (by simp))
    refine ⟨x, by simp, hxR, hxp, (br_iff hxT'.2 hMp).mpr ?_⟩
    have hxb := (nearer_iff hxT'.2).mp hxp
    rcases Nat.lt_trichotomy (x ^^^ p).log2 (M ^^^ p).log2 with q | q | q
    · rw [← hyl] at q hbit
      have := (nearer_top (t := t) q).mpr hbit
      have := hxT y hy
      with_reducible exact absurd (by assumption) (Nat.not_lt_of_le (by assumption))
    · exact q
    · have := (nearer_top (t := t) q).mpr hxb
      have := X.Mm x (hrow.mem_iff.mp hxT'.1)
      with_reducible exact absurd (by assumption) (Nat.not_lt_of_le (by assumption))
theorem KJ.popd {st : St2} (J : KJ N few t M T st) (hne : st.heap ≠ []) : ∃ p, popm st.heap = itm t p ∧ p ∈ st.known ∧ p ∉ st.asked.map (·.1) ∧ (∀ y ∈ st.known, y ∉ st.asked.map (·.1) → p ^^^ t ≤ y ^^^ t) ∧
    ∃ V : List Nat, V.Nodup ∧ (popr st.heap).Perm (V.map (itm t)) ∧ ∀ x, x ∈ V ↔ x ∈ st.known ∧ x ∉ st.asked.map (·.1) ∧ x ≠ p := by
  obtain ⟨U, u1, u2, u3⟩ := J.un
  have hpr := pop_perm hne
  obtain ⟨hhp, hmin⟩ := pop_hp J.l2 J.hp hne
  have h1 : popm st.heap ∈ U.map (itm t) := (hpr.trans u2).mem_iff.mp List.mem_cons_self
  obtain ⟨p, hp, e⟩ := List.mem_map.mp h1
  have hpU := (u3 p).mp hp
  refine ⟨p, e.symm, hpU.1, hpU.2, fun y hy hn => ?_, U.erase p, u1.erase p, ?_, fun x => ?_⟩
  · have := hmin (itm t y) (u2.mem_iff.mpr (List.mem_map.mpr ⟨y, (u3 y).mpr ⟨hy, hn⟩, rfl⟩))
    rw [← e] at this
    exact leq_fst this
  · have a := hpr.trans (u2.trans ((List.perm_cons_erase hp).map (itm t)))
    rw [List.map_cons, ← e] at a
    exact a.cons_inv
  · rw [u1.mem_erase_iff, u3]
    constructor
    · rintro ⟨a, b, c⟩; exact ⟨b, c, a⟩
    · rintro ⟨a, b, c⟩; exact ⟨c, a, b⟩
theorem KJ.step (X : Net N few t M T row) {st : St2} (J : KJ N few t M T st) (hne : st.heap ≠ []) {R : List Nat} (hR : Nsm few t (T ((popm st.heap).getD 1 0).toNat) R) : KJ N few t M T (stepQ t st R) := by
  obtain ⟨p, e, hpk, hpa, hmin, V, v1, v2, v3⟩ := J.popd hne
  obtain ⟨hhp, _⟩ := pop_hp J.l2 J.hp hne
  have hpr := pop_perm hne
  have hlr : Lens 2 (popr st.heap) := fun x hx => J.l2 x (hpr.mem_iff.mp (by simp [hx]))
  have g0 : ((popm st.heap).getD 0 0).toNat = p ^^^ t := by rw [e]; simp [itm]
  have g1 : ((popm st.heap).getD 1 0).toNat = p := by rw [e]; simp [itm]
  rw [g1] at hR
  have hpN := J.ks p hpk
  have B := X.tb p hpN
  have hRN : ∀ x ∈ R, x ∈ N := fun x hx => (X.rw_ p hpN).mem_iff.mp (B.sub x (hR.sub x hx)).1
  obtain ⟨A, a1, a2, a3, a4, a5, a6, a7⟩ := tell_ok R (popr st.heap) st.known V v2 hhp hlr fun x hx => ((v3 x).mp hx).1
  unfold stepQ
  rw [g0, g1]
  have hown : (st.asked ++ [(p, nearN t st.known (p ^^^ t))]).map (·.1) = st.asked.map (·.1) ++ [p] := by simp
  refine ⟨?_, ?_, a3, a4, ⟨V ++ A, ?_, a2, fun x => ?_⟩, ?_, ?_, ?_⟩
  · show ((R.foldl (tell1 t) (popr st.heap, st.known)).2).Nodup
    rw [a1, List.nodup_append]
    exact ⟨J.kn, a5, fun x hx y hy q => (a6 y hy).1 (q ▸ hx)⟩
  · intro x hx
    have hx : x ∈ (R.foldl (tell1 t) (popr st.heap, st.known)).2 := hx
    rw [a1] at hx
    rcases List.mem_append.mp hx with q | q
    · exact J.ks x q
    · exact hRN x (a6 x q).2
  · rw [List.nodup_append]
    exact ⟨v1, a5, fun x hx y hy q => (a6 y hy).1 (q ▸ ((v3 x).mp hx).1)⟩
  · show x ∈ V ++ A ↔ x ∈ (R.foldl (tell1 t) (popr st.heap, st.known)).2 ∧ x ∉ (st.asked ++ [(p, nearN t st.known (p ^^^ t))]).map (·.1)
    rw [a1, hown, List.mem_append, List.mem_append, List.mem_append, v3]
    constructor
    · rintro (⟨b, c, d⟩ | q)
      · exact ⟨.inl b, by rintro (z | z); exact c z; simp at z; exact d z⟩
      · refine ⟨.inr q, ?_⟩
        rintro (z | z)
        · exact (a6 x q).1 (J.os x z)
        · simp at z; subst z; exact (a6 x q).1 hpk
    · rintro ⟨b | b, c⟩
      · exact .inl ⟨b, fun z => c (.inl z), fun z => c (.inr (by simp [z]))⟩
      · exact .inr b
  · intro x hx
    show x ∈ (R.foldl (tell1 t) (popr st.heap, st.known)).2
    have hx : x ∈ (st.asked ++ [(p, nearN t st.known (p ^^^ t))]).map (·.1) := hx
    rw [hown] at hx
    rw [a1]
    rcases List.mem_append.mp hx with q | q
    · simp [J.os x q]
    · simp at q; obtain rfl := Eq.symm q; simp [hpk]
  · intro a ha
    have ha : a ∈ (st.asked ++ [(p, nearN t st.known (p ^^^ t))]).map (·.1) := ha
    show ∃ R', Nsm few t (T a) R' ∧ ∀ x ∈ R', x ∈ (R.foldl (tell1 t) (popr st.heap, st.known)).2
    rw [hown] at ha
    rw [a1]
    rcases List.mem_append.mp ha with q | q
    · obtain ⟨R', r1, r2⟩ := J.an a q
      exact ⟨R', r1, fun x hx => by simp [r2 x hx]⟩
    · simp at q; obtain rfl := Eq.symm q; exact ⟨R, hR, a7⟩
  · show nar M none (st.asked ++ [(p, nearN t st.known (p ^^^ t))]) = true ∨ (pass M none (st.asked ++ [(p, nearN t st.known (p ^^^ t))]) ∧ ∃ x ∈ (R.foldl (tell1 t) (popr st.heap, st.known)).2, x ∉ (st.asked ++ [(p, nearN t st.known (p ^^^ t))]).map (·.1) ∧ (∀ y ∈ (R.foldl (tell1 t) (popr st.heap, st.known)).2, x ^^^ t ≤ y ^^^ t) ∧ ∀ a, lastO none (st.asked ++ [(p, nearN t st.known (p ^^^ t))]) = some a → br a x M = true)
    rw [hown, a1]
    rcases J.ph with q | ⟨q1, x, q2, q3, q4, q5⟩
    · exact .inl (nar_append _ q)
    · have epx : p = x := xor_inj (Nat.le_antisymm (hmin x q2 q3) (q4 p hpk))
      subst epx
      have hn : nearN t st.known (p ^^^ t) = 0 := by
        unfold nearN
        rw [List.length_eq_zero_iff, List.filter_eq_nil_iff]
        intro u hu z
        have z := of_decide_eq_true z
        have := q4 u hu
        with_reducible exact absurd (by assumption) (Nat.not_lt_of_le (by assumption))
      rw [hn]
      obtain ⟨b1, b2, b3⟩ := pass_append (o := p) q1 q5
      by_cases hpM : p = M
      · exact .inl (b1 hpM)
      · right
        obtain ⟨x, c1, c2, c3, c4⟩ := told_narrows X hpN hpM hR
        have hxk : x ∉ st.known := fun z => by have := q4 x z; with_reducible exact absurd (by assumption) (Nat.not_lt_of_le (by assumption))
        have hxA : x ∈ A := by
          rcases List.mem_append.mp (a7 x c1) with z | z
          · exact absurd z hxk
          · exact z
        refine ⟨b2 hpM, x, by simp [hxA], ?_, fun y hy => ?_, fun a ha => ?_⟩
        · rw [List.mem_append]
          rintro (z | z)
          · exact hxk (J.os x z)
          · simp at z; obtain rfl := Eq.symm z; exact hxk hpk
        · rcases List.mem_append.mp hy with z | z
          · have := q4 y z; with_reducible exact Nat.le_trans (Nat.le_of_lt (by assumption)) (by assumption)
          · exact c2 y (a6 y z).2
        · rw [b3] at ha; (first | exact nsF ha | exact snF ha | obtain rfl := Option.some.inj ha | cases ha); exact c4
end
end
section
theorem popm_at {h : List (List Int)} (hne : h ≠ []) : popm h = at' h 0 := by
  have e := split_last hne
  unfold popm hpop
  generalize h.dropLast = xs at *
  generalize h.getLastD [] = l at *
  subst e
  split
  · rename_i q; subst q; rfl
  · rename_i q
    rw [at_append_left (List.length_pos_iff.mpr q)]; rfl
section
variable {N : List Nat} {few t M : Nat} {T row : Nat → List Nat}
theorem KJ.stop (X : Net N few t M T row) (hN : few ≤ N.length) {st : St2} (J : KJ N few t M T st) (hexit : st.heap = [] ∨ few ≤ nearN t st.known ((at' st.heap 0).getD 0 0).toNat) :
    nar M none st.asked = true ∧ ∀ F, Nsm few t st.known F → Nsm few t N F := by
  have D1 : ∀ a ∈ st.known, nearN t st.known (a ^^^ t) < few → a ∈ st.asked.map (·.1) := fun a ha hn => by
    rcases Decidable.em (a ∈ st.asked.map (·.1)) with q | q
    · exact q
    · exfalso
      obtain ⟨U, u1, u2, u3⟩ := J.un
      have hne : st.heap ≠ [] := fun z => by
        have := u2.length_eq
        rw [z, List.length_map] at this
        have hU : U = [] := List.length_eq_zero_iff.mp this.symm
        have := (u3 a).mpr ⟨ha, q⟩
        rw [hU] at this; cases this
      obtain ⟨p, e, hpk, hpa, hmin, _⟩ := J.popd hne
      rcases hexit with z | z
      · exact hne z
      · rw [← popm_at hne, e] at z
        have z : few ≤ nearN t st.known (p ^^^ t) := by simpa [itm] using z
        have := nearN_mono (t := t) J.kn (hmin a ha q)
        with_reducible exact kj1 (by assumption) (by assumption) (by assumption)
  have hnar : nar M none st.asked = true := by
    rcases J.ph with q | ⟨q1, x, q2, q3, q4, q5⟩
    · exact q
    · exfalso
      refine q3 (D1 x q2 ?_)
      have : nearN t st.known (x ^^^ t) = 0 := by
        unfold nearN
        rw [List.length_eq_zero_iff, List.filter_eq_nil_iff]
        intro u hu z
        have z := of_decide_eq_true z
        have := q4 u hu
        with_reducible exact absurd (by assumption) (Nat.not_lt_of_le (by assumption))
      rw [this]; exact X.few0
  refine ⟨hnar, ?_⟩
  have hk0 : st.known ≠ [] := fun z => by
    cases e : st.asked with
    | nil => rw [e] at hnar; cases hnar
    | cons x r =>
      have := J.os x.1 (by rw [e]; simp)
      rw [z] at this; cases this
  have star : ∀ v ∈ N, nearN t N (v ^^^ t) < few → v ∈ st.known := fun v hv hvn => by
    rcases Decidable.em (v ∈ st.known) with hvk | hvk
    · exact hvk
    · exfalso
      have key : ∀ a ∈ st.known, nearN t st.known (a ^^^ t) < few → a ^^^ t < v ^^^ t ∧ few ≤ st.known.length := fun a ha hn => by
        have haN := J.ks a ha
        have B := X.tb a haN
        have hrow := X.rw_ a haN
        obtain ⟨R, r1, r2⟩ := J.an a (D1 a ha hn)
        have hva : v ≠ a := fun e => hvk (e ▸ ha)
        have hvR : v ∉ R := fun q => hvk (r2 v q)
        have hRN : ∀ x ∈ R, x ∈ N := fun x hx => J.ks x (r2 x hx)
        have hTlen := r1.len
        have full : few ≤ ((T a).filter fun one => br a one v).length := by
          rcases B.full v (hrow.mem_iff.mpr hv) hva with q | q
          · exfalso
            have nd : (v :: R).Nodup := by rw [List.nodup_cons]; exact ⟨hvR, r1.asc.nodup⟩
            have h1 := nodup_sub_len nd fun y hy => by
              rcases List.mem_cons.mp hy with z | z
              · rw [z]; exact q
              · exact r1.sub y z
            rw [List.length_cons] at h1
            have h2 := nearN_ge (t := t) (f := v ^^^ t) (l := N) r1.asc.nodup fun x hx => ⟨hRN x hx, r1.far v q hvR x hx⟩
            exact kj2 (by assumption) r1.len h1 h2
          · exact q
        have hTl : few ≤ (T a).length := Nat.le_trans full (List.length_filter_le _ _)
        have hRl : R.length = few := by with_reducible exact mi5 (by assumption) (by assumption)
        have hKl : few ≤ st.known.length := by rw [← hRl]; exact nodup_sub_len r1.asc.nodup r2
        refine ⟨?_, hKl⟩
        rcases Nat.lt_or_ge (a ^^^ t) (v ^^^ t) with q | q
        · exact q
        · exfalso
          have q : v ^^^ t < a ^^^ t := by
            rcases Nat.lt_or_ge (v ^^^ t) (a ^^^ t) with z | z
            · exact z
            · exact absurd (xor_inj (Nat.le_antisymm q z)) hva
          have hbit := (nearer_iff hva).mp q
          have hS : ∀ s ∈ (T a).filter fun one => br a one v, s ∈ T a ∧ s ^^^ t < a ^^^ t := fun s hs => by
            rw [List.mem_filter] at hs
            have hsa := (B.sub s hs.1).2
            refine ⟨hs.1, ?_⟩
            rw [nearer_iff hsa, (br_iff hsa hva).mp hs.2]; exact hbit
          have hRn : ∀ r ∈ R, r ^^^ t < a ^^^ t := fun r hr => by
            rcases Nat.lt_or_ge (r ^^^ t) (a ^^^ t) with z | z
            · exact z
            · exfalso
              have nd : (r :: (T a).filter fun one => br a one v).Nodup := by
                rw [List.nodup_cons]
                exact ⟨fun y => by have := (hS r y).2; with_reducible exact absurd (by assumption) (Nat.not_lt_of_le (by assumption)), B.nd.filter _⟩
              have := nodup_sub_len nd fun y hy => by
                rcases List.mem_cons.mp hy with w | w
                · rw [w]; exact hr
                · rcases Decidable.em (y ∈ R) with u | u
                  · exact u
                  · have h1 := hS y w
                    have h2 := r1.far y h1.1 u r hr
                    with_reducible exact (kj3 (by assumption) (by assumption) (by assumption)).elim
              rw [List.length_cons] at this
              exact (kj4 (by assumption) (by assumption) this).elim
          have := nearN_ge (t := t) (f := a ^^^ t) (l := st.known) r1.asc.nodup fun x hx => ⟨r2 x hx, hRn x hx⟩
          exact (kj5 (by assumption) (by assumption) this).elim
      obtain ⟨m, m1, m2⟩ := asc_ex t st.known J.kn
      have inA : ∀ a ∈ m.take few, a ∈ st.known ∧ nearN t st.known (a ^^^ t) < few := fun a ha => by
        refine ⟨m2.mem_iff.mp (List.mem_of_mem_take ha), ?_⟩
        rw [← perm_near m2]; exact asc_take m1 ha
      have hml := m2.length_eq
      have hkl : few ≤ st.known.length := by
        cases e : m.take few with
        | nil =>
          have h1 := congrArg List.length e
          rw [List.length_take, List.length_nil] at h1
          have h2 := List.length_pos_iff.mpr hk0
          have h3 := X.few0
          with_reducible exact kj6 (by assumption) (by assumption) (by assumption)
        | cons a r =>
          have := inA a (by rw [e]; simp)
          exact (key a this.1 this.2).2
      have := nearN_ge (t := t) (f := v ^^^ t) (l := N) (S := m.take few) (Asc.nodup (m1.sublist (List.take_sublist _ _))) fun a ha => by
        have := inA a ha
        exact ⟨J.ks a this.1, (key a this.1 this.2).1⟩
      rw [List.length_take] at this
      with_reducible exact kj7 (by assumption) (by assumption) (by assumption) (by assumption)
  intro F hF
  obtain ⟨m, m1, m2⟩ := asc_ex t N X.nd
  have hG := nsm_take (few := few) m1 m2
  have hGk : ∀ x ∈ m.take few, x ∈ st.known := fun x hx => star x (hG.sub x hx) (by rw [← perm_near m2]; exact asc_take m1 hx)
  have hK : Nsm few t st.known (m.take few) := by
    refine ⟨hG.asc, hGk, ?_, fun x hx hn y hy => hG.far x (J.ks x hx) hn y hy⟩
    have h1 := nodup_sub_len hG.asc.nodup hGk
    have h2 := hG.len
    with_reducible exact kj8 (by assumption) (by assumption) (by assumption)
  rw [hF.uniq hK]; exact hG
end
end
section
open PySem PySem.W PyProof.Rows
/-- all that is asked lies below n -/
noncomputable def AllA {α : Type} (n : Nat) : KasT α → Prop
  | .ret _ => True
  | .ask i j k => i < n ∧ j < n ∧ ∀ b, AllA n (k b)
/-- all results obey -/
noncomputable def Res {α : Type} (P : α → Prop) : KasT α → Prop
  | .ret a => P a
  | .ask _ _ k => ∀ b, Res P (k b)
theorem all_bind {α β : Type} {n : Nat} {g : α → KasT β} {P : α → Prop} : ∀ {t : KasT α}, AllA n t → Res P t → (∀ a, P a → AllA n (g a)) → AllA n (t.bind g)
  | .ret a, _, hr, h => h a hr
  | .ask i j k, ⟨h1, h2, h3⟩, hr, h => ⟨h1, h2, fun b => all_bind (h3 b) (hr b) h⟩
theorem res_bind {α β : Type} {g : α → KasT β} {P : α → Prop} {Z : β → Prop} : ∀ {t : KasT α}, Res P t → (∀ a, P a → Res Z (g a)) → Res Z (t.bind g)
  | .ret a, hr, h => h a hr
  | .ask i j k, hr, h => fun b => res_bind (hr b) h
noncomputable def Vn (n : Nat) (p : Array Nat) : Prop := 0 < n ∧ ∀ x ∈ p.toList, x < n
theorem Vn.get {n : Nat} {p : Array Nat} (h : Vn n p) (i : Nat) : p.getD i 0 < n := by
  rw [Array.getD_eq_getD_getElem?]
  cases e : p[i]? with
  | none => exact h.1
  | some x => exact h.2 x (by have := Array.mem_of_getElem? e; exact Array.mem_toList_iff.mpr this)
theorem Vn.perm {n : Nat} {p q : Array Nat} (h : Vn n p) (hq : q.Perm p) : Vn n q := ⟨h.1, fun x hx => h.2 x ((Array.perm_iff_toList_perm.mp hq).mem_iff.mp hx)⟩
theorem all_asc {n : Nat} {p : Array Nat} (v : Vn n p) : ∀ c k, AllA n (kas_asc p c k)
  | 0, k => trivial
  | c + 1, k => ⟨v.get _, v.get _, fun b => by cases b; exact all_asc v c (k + 1); exact trivial⟩
theorem rev_vn {n : Nat} {p : Array Nat} (v : Vn n p) (i j : Nat) : Vn n (kas_rev p i j) := v.perm (mirror_perm _ _ _ _)
theorem all_desc {n : Nat} : ∀ (c : Nat) (p : Array Nat) (k q : Nat), Vn n p → AllA n (kas_desc c p k q) ∧ Res (fun r => Vn n r.1) (kas_desc c p k q)
  | 0, p, k, q, v => ⟨trivial, v⟩
  | c + 1, p, k, q, v => by
    unfold kas_desc
    refine ⟨⟨v.get _, v.get _, fun b => ?_⟩, fun b => ?_⟩
    · cases b with
      | true =>
        show AllA n (if q > 0 then _ else _)
        split
        · exact (all_desc c _ _ _ (rev_vn v _ _)).1
        · exact (all_desc c _ _ _ v).1
      | false =>
        refine ⟨v.get _, v.get _, fun d => ?_⟩
        cases d with
        | true => exact trivial
        | false => exact (all_desc c _ _ _ v).1
    · cases b with
      | true =>
        show Res _ (if q > 0 then _ else _)
        split
        · exact (all_desc c _ _ _ (rev_vn v _ _)).2
        · exact (all_desc c _ _ _ v).2
      | false =>
        intro d
        cases d with
        | true => exact v
        | false => exact (all_desc c _ _ _ v).2
theorem res_true {α : Type} : ∀ (t : KasT α), Res (fun _ => True) t
  | .ret _ => trivial
  | .ask _ _ k => fun b => res_true (k b)
theorem all_tail {n m r : Nat} {p : Array Nat} (v : Vn n p) : AllA n (kas_tail3 m r p) ∧ Res (fun x => Vn n x.2) (kas_tail3 m r p) :=
  ⟨all_bind (all_asc (rev_vn v _ _) _ _) (res_true _) fun _ _ => trivial, res_bind (res_true _) fun _ _ => rev_vn v _ _⟩
theorem all_descPart {n m r : Nat} {p : Array Nat} (v : Vn n p) : AllA n (kas_descPart m r p) ∧ Res (fun x => Vn n x.2) (kas_descPart m r p) := by
  have h := all_desc (r - (m + 1)) p (m + 1) 0 v
  refine ⟨all_bind h.1 h.2 fun a ha => ?_, res_bind h.2 fun a ha => ?_⟩
  · split
    · exact (all_tail (rev_vn ha _ _)).1
    · exact (all_tail ha).1
  · split
    · exact (all_tail (rev_vn ha _ _)).2
    · exact (all_tail ha).2
theorem all_count {n r : Nat} {p : Array Nat} (v : Vn n p) : AllA n (kas_count r p) ∧ Res (fun x => Vn n x.2) (kas_count r p) := by
  refine ⟨all_bind (all_asc v _ _) (res_true _) fun a _ => ?_, res_bind (res_true _) fun a _ => ?_⟩
  · split
    · exact trivial
    · split
      · refine ⟨v.get _, v.get _, fun b => ?_⟩
        cases b with
        | true => exact trivial
        | false => exact (all_descPart (rev_vn v _ _)).1
      · exact (all_descPart v).1
  · split
    · exact v
    · split
      · intro b
        cases b with
        | true => exact v
        | false => exact (all_descPart (rev_vn v _ _)).2
      · exact (all_descPart v).2
theorem all_place {n k : Nat} {p : Array Nat} (v : Vn n p) : ∀ c l r, AllA n (kas_place p k c l r)
  | 0, l, r => trivial
  | c + 1, l, r => by
    unfold kas_place
    split
    · exact trivial
    · refine ⟨v.get _, v.get _, fun b => ?_⟩
      cases b with
      | true => exact all_place v c _ _
      | false => exact all_place v c _ _
theorem all_bin {n : Nat} : ∀ c (p : Array Nat) k, Vn n p → AllA n (kas_bin c p k)
  | 0, p, k, v => trivial
  | c + 1, p, k, v => all_bind (all_place v _ _ _) (res_true _) fun l _ => all_bin c _ _ (v.perm (bubble_perm _ _ _))
theorem all_sort {n : Nat} (h : 0 < n) : AllA n (kas_sort n) := by
  have v : Vn n (List.toArray (List.range n)) := ⟨h, fun x hx => by simpa using hx⟩
  have hc := all_count (r := n) v
  refine all_bind hc.1 hc.2 fun a ha => ?_
  split
  · exact all_bin _ _ _ ha
  · exact trivial
theorem wp_prA {f : Nat → Int} {n : Nat} {α : Type} {cmp : Nat → Nat → (Bool → Shared → Prop) → Shared → Prop} {I : Shared → Prop} (hc : ∀ i j C s, i < n → j < n → I s → (∀ s', I s' → C (ltf f i j) s') → cmp i j C s) {Q : α → Shared → Prop} : ∀ (t : KasT α) (s : Shared), AllA n t → I s → (∀ s', I s' → Q (runK (ltf f) t) s') → t.kasWp cmp Q s
  | .ret a, s, _, hI, h => h s hI
  | .ask i j k, s, ⟨h1, h2, h3⟩, hI, h => hc i j _ s h1 h2 hI fun s' hI' => wp_prA hc (k (ltf f i j)) s' (h3 _) hI' h
/-! the order of lists of ints of one length -/
theorem lexLt_trans : ∀ {k : Nat} {a b c : List Int}, a.length = k → b.length = k → c.length = k → lexLt a b = true → lexLt b c = true → lexLt a c = true
  | 0, a, b, c, ha, hb, hc, h, _ => by rw [List.length_eq_zero_iff.mp ha, List.length_eq_zero_iff.mp hb] at h; cases h
  | k + 1, x :: a, y :: b, z :: c, ha, hb, hc, h1, h2 => by
    unfold lexLt at h1 h2 ⊢
    by_cases q1 : x = y
    · subst q1
      rw [if_pos rfl] at h1
      by_cases q2 : x = z
      · subst q2
        rw [if_pos rfl] at h2 ⊢
        exact lexLt_trans (by simpa using ha) (by simpa using hb) (by simpa using hc) h1 h2
      · rw [if_neg q2] at h2 ⊢; exact h2
    · rw [if_neg q1] at h1
      have h1 := of_decide_eq_true h1
      by_cases q2 : y = z
      · subst q2
        rw [if_neg q1]; exact decide_eq_true h1
      · rw [if_neg q2] at h2
        have h2 := of_decide_eq_true h2
        rw [if_neg (by omega)]; exact decide_eq_true (by with_reducible exact ii1 (by assumption) (by assumption))
theorem lexLt_total : ∀ {k : Nat} {a b : List Int}, a.length = k → b.length = k → a ≠ b → lexLt a b = true ∨ lexLt b a = true
  | 0, a, b, ha, hb, h => absurd (by rw [List.length_eq_zero_iff.mp ha, List.length_eq_zero_iff.mp hb]) h
  | k + 1, x :: a, y :: b, ha, hb, h => by
    unfold lexLt
    by_cases q : x = y
    · subst q
      rw [if_pos rfl, if_pos rfl]
      exact lexLt_total (by simpa using ha) (by simpa using hb) fun e => h (by rw [e])
    · rw [if_neg q, if_neg (Ne.symm q)]
      rcases Int.lt_or_gt_of_ne q with z | z
      · exact .inl (decide_eq_true z)
      · exact .inr (decide_eq_true z)
noncomputable def rankL (xs : List (List Int)) (i : Nat) : Int := ((xs.filter fun y => lexLt y (xs.getD i [])).length : Int)
theorem filter_lt_of {α : Type} {p q : α → Bool} {x : α} : ∀ {l : List α}, (∀ y ∈ l, p y = true → q y = true) → x ∈ l → p x = false → q x = true → (l.filter p).length < (l.filter q).length
  | [], _, h, _, _ => by cases h
  | y :: l, h, hx, h1, h2 => by
    have le : ∀ (l : List α), (∀ y ∈ l, p y = true → q y = true) → (l.filter p).length ≤ (l.filter q).length := fun l hl => by
      induction l with
      | nil => simp
      | cons z l ih =>
        have ih := ih fun w hw => hl w (by simp [hw])
        rw [List.filter_cons, List.filter_cons]
        cases e : p z with
        | true => rw [hl z (by simp) e]; simpa using ih
        | false => cases q z <;> simp <;> (first | with_reducible assumption | with_reducible exact Nat.le_add_right_of_le (by assumption))
    rw [List.filter_cons, List.filter_cons]
    rcases List.mem_cons.mp hx with e | e
    · subst e
      rw [h1, h2]
      have := le l fun w hw => h w (by simp [hw])
      simp; with_reducible exact Nat.lt_succ_of_le (by assumption)
    · have := filter_lt_of (l := l) (fun w hw => h w (by simp [hw])) e h1 h2
      cases e2 : p y with
      | true => rw [h y (by simp) e2]; simpa using this
      | false => cases q y <;> simp <;> (first | with_reducible assumption | with_reducible exact Nat.lt_succ_of_lt (by assumption))
theorem rank_lt {k : Nat} {xs : List (List Int)} (hk : Lens k xs) {i j : Nat} (hi : i < xs.length) (hj : j < xs.length) : lexLt (xs.getD i []) (xs.getD j []) = decide (rankL xs i < rankL xs j) := by
  have li := hk.getD hi
  have lj := hk.getD hj
  have mi : xs.getD i [] ∈ xs := by rw [List.getD_eq_getElem?_getD, List.getElem?_eq_getElem hi]; exact List.getElem_mem hi
  have mj : xs.getD j [] ∈ xs := by rw [List.getD_eq_getElem?_getD, List.getElem?_eq_getElem hj]; exact List.getElem_mem hj
  have up : ∀ {a b : List Int}, a ∈ xs → b ∈ xs → lexLt a b = true → (xs.filter fun y => lexLt y a).length < (xs.filter fun y => lexLt y b).length := fun {a b} ha hb h =>
    filter_lt_of (fun y hy q => lexLt_trans (hk y hy) (hk a ha) (hk b hb) q h) ha (lexLt_irrefl a) h
  unfold rankL
  by_cases e : xs.getD i [] = xs.getD j []
  · rw [e, lexLt_irrefl]; simp
  · rcases lexLt_total li lj e with q | q
    · rw [q]
      have := up mi mj q
      exact (decide_eq_true (by with_reducible exact Int.ofNat_lt.mpr (by assumption))).symm
    · have := up mj mi q
      cases z : lexLt (xs.getD i []) (xs.getD j []) with
      | true =>
        have := up mi mj z
        with_reducible exact absurd (by assumption) (Nat.lt_asymm (by assumption))
      | false => exact (decide_eq_false (by (intro _; with_reducible exact rk1 (by assumption) (by assumption)))).symm
end
section
open PySem.W (KatLex KatTups kat_cons kat_yes kat_no kat_nil kat_go kat_one kat_lt kat_kind kat_run kat_snds kas_sort kas_ask kas_item KasT Looks)
theorem den_ti {h : Heap} {l : List Int} {v : Value} (d : Den h (ti l) v) : ∃ a vs, v = .ref a ∧ h.get? a = some { cls := .type "tuple", data := .seq vs } ∧ DenL h (l.map .int) vs.toList := d
section
variable {g : G} {A : Around} {E : Value → Shared → Prop} {s : Shared}
theorem katlex_ints {b fin : Bool} {Q : Bool → Shared → Prop} : ∀ {l m : List Int} {vs ws : List Value} (i : Nat), DenL s.heap (l.map .int) vs → DenL s.heap (m.map .int) ws → l.length = m.length →
    Q (if l = m then fin else lexLt l m) s → KatLex g.prog g.w A b fin Q (vs.zip ws) i s
  | [], [], vs, ws, i, d1, d2, _, h => by
    rw [show vs = [] from d1]
    exact kat_nil (by simpa using h)
  | [], _ :: _, _, _, _, _, _, hl, _ => by cases hl
  | _ :: _, [], _, _, _, _, _, hl, _ => by cases hl
  | x :: l, y :: m, vs, ws, i, d1, d2, hl, h => by
    obtain ⟨v, vs', e1, ⟨t, e2⟩, e3⟩ := d1
    obtain ⟨w, ws', f1, ⟨u, f2⟩, f3⟩ := d2
    subst e1; subst f1; subst e2; subst f2
    rw [List.zip_cons_cons]
    refine kat_cons (wpAny_eqBool_int ?_)
    by_cases q : x = y
    · subst q
      rw [beq_self_eq_true]
      refine kat_yes (katlex_ints (i + 1) e3 f3 (by simpa using hl) ?_)
      by_cases z : l = m
      · subst z; rw [if_pos rfl]; rw [if_pos rfl] at h; exact h
      · rw [if_neg z]
        rw [if_neg (fun e => z (List.cons.inj e).2)] at h
        unfold lexLt at h
        rw [if_pos rfl] at h; exact h
    · rw [beq_eq_false_iff_ne.mpr q]
      refine kat_no ?_
      rw [if_neg (fun e => q (List.cons.inj e).1)] at h
      unfold lexLt at h
      rw [if_neg q] at h
      cases b && i == 0 with
      | true => exact oneLt_int h
      | false => exact kat_one _ _ (lt_int h)
theorem tups_of {h : Heap} {k : Nat} : ∀ {xs : List (List Int)} {vs : List Value}, Lens (k + 1) xs → DenL h (xs.map ti) vs → ∃ fs, KatTups h vs fs ∧ fs.length = xs.length ∧ ∀ v ∈ fs, ∃ i t, v = .int i t
  | [], vs, _, d => ⟨[], by rw [show vs = [] from d]; exact KatTups.nil, rfl, by simp⟩
  | x :: xs, vs, hk, ⟨v, vs', e1, e2, e3⟩ => by
    obtain ⟨fs, h1, h2, h3⟩ := tups_of (xs := xs) (fun y hy => hk y (by simp [hy])) e3
    obtain ⟨a, ws, rfl, f2, f3⟩ := den_ti e2
    have hx := hk x (by simp)
    cases x with
    | nil => cases hx
    | cons i r =>
      obtain ⟨u, us, g1, ⟨t, g2⟩, g3⟩ := f3
      subst e1
      refine ⟨u :: fs, KatTups.cons f2 rfl rfl (by rw [← Array.getElem?_toList, g1]; rfl) h1, by simp [h2], fun z hz => ?_⟩
      rcases List.mem_cons.mp hz with q | q
      · exact ⟨i, t, by rw [q, g2]⟩
      · exact h3 z q
theorem lsort_core {Fs : List Addr} {R : RF} {H : HF} {P : PySem.Fin → Shared → Prop} {a : Addr} {xs : List (List Int)} {k : Nat} (I : HI g Fs R H s.heap) (hH : H a = some (.list (xs.map ti))) (hk : Lens (k + 1) xs) (nd : xs.Nodup) (h2 : 2 ≤ xs.length) (h64 : xs.length < 64)
    (h : ∀ (ys : List (List Int)) (h' : Heap), ys.Perm xs → ys.Pairwise (fun x y => lexLt x y = true) → HI g Fs R (H.set a (.list (ys.map ti))) h' → P (.done (.ret .none)) { s with heap := h' }) :
    wpAny (model g.prog g.w) A (Builtin.«list.sort» ⟨[.ref a], []⟩) P E s := by
  obtain ⟨vs, n0, ho, hd⟩ := mineL I hH
  have hsz : vs.toList.length = xs.length := by have := hd.length; rw [List.length_map] at this; exact this
  have s1 := Heap.SameBut.update s.heap a (Obj.mapSeq fun _ => (#[] : Array Value))
  have ho' : s.heap.get? a = some (seqObj "list" vs n0) := ho
  obtain ⟨c1, ho1⟩ : ∃ c1, (s.heap.update a (Obj.mapSeq fun _ => (#[] : Array Value))).get? a = some (seqObj "list" #[] c1) := ⟨_, get?_update_seq ho' fun _ => #[]⟩
  have I1 : HI g Fs R (H.set a (.list [])) (s.heap.update a (Obj.mapSeq fun _ => (#[] : Array Value))) := I.upd hH s1 ho1 ⟨_, _, rfl, rfl⟩
  have d1 := hd.keeps (I.tupKeep hH s1)
  generalize hh1 : s.heap.update a (Obj.mapSeq fun _ => (#[] : Array Value)) = hp1 at *
  have x2 : Ext hp1 ((hp1.push (seqObj "tuple" vs 0)).push (seqObj "list" #[] 0)) := (Ext.push _ _).trans (Ext.push _ _)
  have I3 := I1.ext x2
  have d3 := d1.keeps x2.tup
  have ho3 := x2 _ _ ho1
  rw [list_sort_plain]
  refine wpAny_bind (listItems_at ho' rfl ?_)
  refine wpAny_bind (listUpdate_at ho' rfl ?_ (by rw [← Array.length_toList, hsz, sizeLine_eq]; with_reducible exact Nat.le_trans (Nat.le_of_lt (by assumption)) (by decide)) (Nat.zero_le _))
  rw [hh1]
  refine wpAny_bind (seqEpoch_at ho1 rfl ?_)
  refine wpAny_bind (wpAny_newTuple ?_ (by rw [hsz, sizeLine_eq]; with_reducible exact Nat.le_trans (Nat.le_of_lt (by assumption)) (by decide)))
  refine wpAny_bind (wpAny_newList ?_ (Nat.zero_le _))
  refine wpAny_holding ?_
  show wpAny (model g.prog g.w) A _ P E { s with heap := (hp1.push (seqObj "tuple" vs 0)).push (seqObj "list" #[] 0) }
  generalize hh3 : (hp1.push (seqObj "tuple" vs 0)).push (seqObj "list" #[] 0) = hp3 at *
  dsimp only
  have hn2 : ¬ vs.size < 2 := by rw [← Array.length_toList, hsz]; with_reducible exact Nat.not_lt_of_le (by assumption)
  rw [if_neg hn2, if_neg hn2]
  obtain ⟨fs, t1, t2, t3⟩ := tups_of hk d3
  have hvs : vs.toList.toArray = vs := by simp
  have kind := kat_kind (M := model g.prog g.w) (A := A) (E := E) (s := { s with heap := hp3 }) (T := .type "int") (Q := fun κ s' => κ = tuples' true ∧ s' = { s with heap := hp3 }) t1 (by with_reducible exact fw1 (by assumption) (by assumption))
    (fun v hv => by obtain ⟨i, t, rfl⟩ := t3 v hv; exact Looks.now) rfl ⟨rfl, rfl⟩
  rw [hvs] at kind
  refine wpAny_bind (wpAny_mono kind (fun κ s0 hk0 => ?_) fun _ _ x => x)
  obtain ⟨rfl, rfl⟩ := hk0
  have ask : (kas_sort vs.toList.length).kasWp (kas_ask g.prog g.w A (tuples' true) vs.toList) (fun p s' => p = runK (ltf (rankL xs)) (kas_sort xs.length) ∧ s' = { s with heap := hp3 }) { s with heap := hp3 } := by
    rw [hsz]
    refine wp_prA (f := rankL xs) (n := xs.length) (I := fun s' => s' = { s with heap := hp3 }) (fun i j C s' hi hj hI hC => ?_) _ _ (all_sort (by with_reducible exact fw2 (by assumption))) rfl fun s' e => ⟨rfl, e⟩
    subst hI
    obtain ⟨v, v1, v2⟩ := d3.get (i := i) (p := ti (xs.getD i [])) (getD_ti hi)
    obtain ⟨w, w1, w2⟩ := d3.get (i := j) (p := ti (xs.getD j [])) (getD_ti hj)
    show wpAny _ _ (keyLt' (tuples' true) (vs.toList.getD i Value.none) (vs.toList.getD j Value.none)) C _ _
    rw [List.getD_eq_getElem?_getD, List.getD_eq_getElem?_getD, v1, w1]
    obtain ⟨b1, us1, rfl, b2, b3⟩ := den_ti v2
    obtain ⟨b1', us2, rfl, b2', b3'⟩ := den_ti w2
    have li := hk.getD hi
    have lj := hk.getD hj
    refine kat_lt b2 rfl b2' rfl (katlex_ints (g := g) 0 b3 b3' (by rw [li, lj]) ?_)
    have hC := hC _ rfl
    unfold ltf at hC
    rw [← rank_lt hk hi hj] at hC
    split
    · rename_i e
      rw [e, lexLt_irrefl] at hC
      have e1 := b3.length
      have e2 := b3'.length
      rw [List.length_map, Array.length_toList] at e1 e2
      rw [decide_eq_false (fun z => ls1 (by assumption) (by assumption) e1 e2 z)]; exact hC
    · exact hC
  refine wpAny_bind (wpAny_mono (kat_run (E := E) (Q := fun st' s' => ∃ p : Array Nat, p.size = vs.toList.length ∧ arrOf st' = p.map (kas_item (vs.toList.toArray.zip vs.toList.toArray)) ∧ failedOf st' = none ∧ p = runK (ltf (rankL xs)) (kas_sort xs.length) ∧ s' = { s with heap := hp3 })
    rfl (by with_reducible exact Nat.le_trans (by assumption) (Nat.le_of_eq (Eq.symm (by assumption)))) (by with_reducible exact Nat.lt_of_le_of_lt (Nat.le_of_eq (by assumption)) (by assumption)) (fun p' st' s' a1 a2 a3 a4 => ⟨p', a1, a2, a3, a4⟩) ask) ?_ fun _ _ e => e)
  rintro ⟨⟨⟩, st'⟩ s' ⟨p, hp, har, hf, hpe, rfl⟩
  dsimp only
  have hout := kat_snds rfl har
  rw [hout]
  obtain ⟨q, q1, q2, q3⟩ := sort_pr (f := rankL xs) (n := xs.length) (by with_reducible exact Nat.le_of_succ_le (by assumption)) fun i j hi hj hij e => by
    have a1 := rank_lt hk hi hj
    have a2 := rank_lt hk hj hi
    rw [e, decide_eq_false (Int.lt_irrefl _)] at a1
    rw [e, decide_eq_false (Int.lt_irrefl _)] at a2
    by_cases z : xs.getD i [] = xs.getD j []
    · have gi : xs.getD i [] = xs[i] := by simp [hi]
      have gj : xs.getD j [] = xs[j] := by simp [hj]
      rw [gi, gj] at z
      rcases Nat.lt_or_gt_of_ne hij with w | w
      · exact List.pairwise_iff_getElem.mp nd i j hi hj w z
      · exact List.pairwise_iff_getElem.mp nd j i hj hi w z.symm
    · rcases lexLt_total (hk.getD hi) (hk.getD hj) z with w | w
      · rw [w] at a1; cases a1
      · rw [w] at a2; cases a2
  rw [q1] at hpe
  subst hpe
  have hin : ∀ i ∈ p.toList, i < xs.length := fun i hi => by simpa using q2.mem_iff.mp hi
  have den : DenL hp3 ((p.toList.map fun i => xs.getD i []).map ti) (p.toList.map fun i => vs.toList.getD i Value.none) := by
    generalize p.toList = l at hin
    induction l with
    | nil => exact rfl
    | cons i r ih =>
      obtain ⟨v, v1, v2⟩ := d3.get (i := i) (p := ti (xs.getD i [])) (getD_ti (hin i (by simp)))
      refine ⟨v, _, ?_, v2, ih fun j hj => hin j (by simp [hj])⟩
      rw [List.map_cons, List.getD_eq_getElem?_getD, v1]; rfl
  have s2 := Heap.SameBut.update hp3 a (Obj.mapSeq fun _ => List.toArray (p.toList.map fun i => vs.toList.getD i Value.none))
  obtain ⟨c2, hc2⟩ : ∃ c2, (hp3.update a (Obj.mapSeq fun _ => List.toArray (p.toList.map fun i => vs.toList.getD i Value.none))).get? a = some (seqObj "list" (List.toArray (p.toList.map fun i => vs.toList.getD i Value.none)) c2) := ⟨_, get?_update_seq ho3 fun _ => List.toArray (p.toList.map fun i => vs.toList.getD i Value.none)⟩
  have hsz2 : (List.toArray (p.toList.map fun i => vs.toList.getD i Value.none)).size = xs.length := by rw [List.size_toArray, List.length_map, Array.length_toList, hp, hsz]
  refine wpAny_bind (seqEpoch_at ho3 rfl ?_)
  refine wpAny_bind (listUpdate_at ho3 rfl ?_ (Nat.zero_le _) (Nat.le_trans (Nat.le_of_eq hsz2) (by rw [sizeLine_eq]; with_reducible exact Nat.le_trans (Nat.le_of_lt (by assumption)) (by decide))))
  rw [hf]
  simp only [bne_self_eq_false, Bool.false_eq_true, if_false]
  refine wpAny_pure (h (p.toList.map fun i => xs.getD i []) _ ?_ ?_ ?_)
  · have e : (List.range xs.length).map (fun i => xs.getD i []) = xs := by
      apply List.ext_getElem
      · simp
      · intro i h1 h2
        simp [h2]
    have := q2.map fun i => xs.getD i []
    rwa [e] at this
  · rw [List.pairwise_map]
    refine q3.imp_of_mem fun {i j} hi hj hij => ?_
    rw [rank_lt hk (hin i hi) (hin j hj)]; exact decide_eq_true hij
  · have I4 := I3.upd (HF.set_self ..) s2 hc2 (y := .list ((p.toList.map fun i => xs.getD i []).map ti)) ⟨_, _, rfl, by simpa using den⟩
    rw [HF.set_set] at I4
    exact I4
end
end
section
section
variable {g : G} {n : Nat} {H : HF} {Q : PV → HF → Prop}
theorem calls_lsort {a : Addr} {xs : List (List Int)} {k : Nat} (hH : H a = some (.list (xs.map ti))) (hk : Lens (k + 1) xs) (nd : xs.Nodup) (h2 : 2 ≤ xs.length) (h64 : xs.length < 64)
    (h : ∀ (ys : List (List Int)), ys.Perm xs → ys.Pairwise (fun x y => lexLt x y = true) → Q .none (H.set a (.list (ys.map ti)))) : Calls g n (.builtin "list.sort") [.ref a] [] H Q := fun fv vvs kvs => Op.mk fun A Fs R s E r I d => by
  obtain ⟨rfl, ⟨_, _, rfl, rfl, rfl⟩, rfl⟩ := d
  obtain ⟨vs, j, e1, e2⟩ := mineL I hH
  refine wpAny_call_entry slot_list_sort ⟨_, e1, rfl⟩ entry_list_sort ?_ (args_list_sort _)
  exact lsort_core I hH hk nd h2 h64 fun ys h' p1 p2 I' => ⟨.none, rfl, .none, _, h ys p1 p2, rfl, I', Same.heap⟩
theorem calls_sorted {l : Addr} {xs : List (List Int)} {k : Nat} (hH : H l = some (.list (xs.map ti))) (hk : Lens (k + 1) xs) (nd : xs.Nodup) (h2 : 2 ≤ xs.length) (h64 : xs.length < 64)
    (h : ∀ (ys : List (List Int)) (c : Addr), ys.Perm xs → ys.Pairwise (fun x y => lexLt x y = true) → H c = none → Q (.ref c) (H.set c (.list (ys.map ti)))) : Calls g n (.builtin "sorted") [.ref l] [] H Q := fun fv vvs kvs => Op.mk fun A Fs R s E r I d => by
  obtain ⟨rfl, ⟨_, _, rfl, rfl, rfl⟩, rfl⟩ := d
  obtain ⟨vs, j, e1, e2⟩ := mineL I hH
  have hl : s.heap.IsList l vs.toList.toArray := by rw [show vs.toList.toArray = vs by simp]; exact e1.isList
  have hsz : vs.toList.length = xs.length := by have := e2.length; rw [List.length_map] at this; exact this
  refine call_function_entry kind_sorted plain_sorted entry_sorted (args_sorted1 _) ?_
  unfold Builtin.«sorted»
  refine wpAny_bind (m := checkCount "sorted" 1 1 _) (wpAny_pure ?_)
  refine wpAny_bind (collect_list hl ?_ (by rw [hsz, sizeLine_eq]; with_reducible exact tL (by assumption)))
  refine wpAny_bind (wpAny_newList ?_ (by rw [hsz, sizeLine_eq]; with_reducible exact tL (by assumption)))
  -- the heaps
  have I1 : HI g Fs R (H.set s.heap.objs.size (.list [])) (s.heap.push (seqObj "list" #[] 0)) := I.alloc (x := .list []) ⟨_, _, rfl, rfl⟩ rfl
  have d1 := e2.keeps (Ext.push s.heap (seqObj "list" #[] 0)).tup
  have hn := I.sizeH
  generalize ht : s.heap.objs.size = t at *
  have ho1 : (s.heap.push (seqObj "list" #[] 0)).get? t = some (seqObj "list" #[] 0) := by rw [← ht]; exact Heap.get?_push_size _ rfl
  have sb := Heap.SameBut.update (s.heap.push (seqObj "list" #[] 0)) t (Obj.mapSeq (· ++ vs.toList.toArray))
  have ho2 := get?_update_seq ho1 (· ++ vs.toList.toArray)
  have d2 := d1.keeps (I1.tupKeep (HF.set_self ..) sb)
  have I2 := I1.upd (HF.set_self ..) sb ho2 (y := .list (xs.map ti)) ⟨_, _, rfl, by simpa using d1⟩
  rw [HF.set_set] at I2
  generalize hh : (s.heap.push (seqObj "list" #[] 0)).update t (Obj.mapSeq (· ++ vs.toList.toArray)) = hp at *
  have I3 := I2.alloc (x := .list (xs.map ti)) (o := seqObj "list" vs.toList.toArray 0) ⟨_, _, rfl, by simpa using d2⟩ rfl
  have hoL : (hp.push (seqObj "list" vs.toList.toArray 0)).get? hp.objs.size = some (seqObj "list" vs.toList.toArray 0) := Heap.get?_push_size _ rfl
  have hn2 := I2.sizeH
  refine wpAny_bind (wpAny_holding (wpAny_call_entry slot_list_sort ⟨_, hoL, rfl⟩ entry_list_sort ?_ (args_list_sort _)))
  refine lsort_core (s := { s with heap := hp.push (seqObj "list" vs.toList.toArray 0) }) I3 (HF.set_self ..) hk nd h2 h64 fun ys h' p1 p2 I' => ⟨_, rfl, wpAny_pure ⟨_, rfl, .ref hp.objs.size, _, h ys _ p1 p2 (HF.set_none hn2).2, rfl, ?_, Same.heap⟩⟩
  rw [HF.set_set] at I'
  exact I'.less (HF.Le.cong (HF.Le.newK hn (HF.Le.refl _)))
end
end
section
/-! the n nearest, kept in a heap whose top is the farthest -/
theorem hp_max {k : Nat} {xs : List (List Int)} (hl : Lens k xs) (h : HpM xs) : ∀ i, i < xs.length → geq (at' xs 0) (at' xs i) := by
  intro i
  induction i using Nat.strongRecOn with
  | ind i ih =>
    intro hi
    by_cases q : i = 0
    · obtain rfl := Eq.symm q; exact geq_refl _
    · have a := ih ((i - 1) / 2) (by with_reducible exact pa_nz (by assumption)) (by with_reducible exact pa_n (by assumption))
      have b := h i (by with_reducible exact Nat.pos_of_ne_zero (by assumption)) hi
      exact geq_trans (at_len hl (by omega)) (at_len hl (by with_reducible exact pa_n (by assumption))) (at_len hl hi) a b
noncomputable def tri (t o e : Nat) : List Int := [((e ^^^ t : Nat) : Int), (o : Int), (e : Int)]
noncomputable def el3 (x : List Int) : Nat := (x.getD 2 0).toNat
theorem el3_tri (t o e : Nat) : el3 (tri t o e) = e := by simp [el3, tri]
theorem leq_fst3 {t o e o' e' : Nat} (h : leq (tri t o e) (tri t o' e')) : e ^^^ t ≤ e' ^^^ t := by
  unfold leq tri lexLt at h
  split at h
  · with_reducible exact z10 (by assumption)
  · have := of_decide_eq_false h; with_reducible exact Nat.le_of_not_lt (mt Int.ofNat_lt.mpr (by assumption))
structure Few (t n : Nat) (seen : List Nat) (res : List (List Int)) : Prop where
  hp : HpM res
  len : res.length = n
  sh : ∀ x ∈ res, ∃ o e : Nat, x = tri t o e
  nd : (res.map el3).Nodup
  sub : ∀ e ∈ res.map el3, e ∈ seen
  far : ∀ e ∈ seen, e ∉ res.map el3 → ∀ y ∈ res.map el3, y ^^^ t < e ^^^ t
theorem Few.l3 {t n : Nat} {seen : List Nat} {res : List (List Int)} (F : Few t n seen res) : Lens 3 res := fun x hx => by
  obtain ⟨o, e, rfl⟩ := F.sh x hx; rfl
theorem Few.top {t n : Nat} {seen : List Nat} {res : List (List Int)} (F : Few t n seen res) (hn : 0 < n) : ∃ o e : Nat, res.getD 0 [] = tri t o e ∧ e ∈ res.map el3 ∧ ∀ y ∈ res.map el3, y ^^^ t ≤ e ^^^ t := by
  have h0 : 0 < res.length := by rw [F.len]; exact hn
  have hm : res.getD 0 [] ∈ res := by rw [List.getD_eq_getElem?_getD, List.getElem?_eq_getElem h0]; exact List.getElem_mem h0
  obtain ⟨o, e, h1⟩ := F.sh _ hm
  refine ⟨o, e, h1, List.mem_map.mpr ⟨_, hm, by rw [h1, el3_tri]⟩, fun y hy => ?_⟩
  obtain ⟨x, hx, rfl⟩ := List.mem_map.mp hy
  obtain ⟨o', e', rfl⟩ := F.sh x hx
  obtain ⟨i, hi, hxi⟩ := List.mem_iff_getElem.mp hx
  have hmx := hp_max F.l3 F.hp i hi
  have e2 : at' res i = tri t o' e' := by unfold at'; rw [List.getD_eq_getElem?_getD, List.getElem?_eq_getElem hi]; exact hxi
  have e1 : at' res 0 = tri t o e := h1
  rw [e1, e2] at hmx
  rw [el3_tri]
  exact leq_fst3 hmx
noncomputable def hfy (xs : List (List Int)) : List (List Int) := supM xs 0 0 (xs.getD 0 [])
theorem hfy_perm {xs : List (List Int)} (h : 0 < xs.length) : (hfy xs).Perm xs := by
  have := supM_perm xs 0 0 (xs.getD 0 []) h
  have e : xs.set 0 (xs.getD 0 []) = xs := by
    cases xs with
    | nil => rfl
    | cons x r => rfl
  rwa [e] at this
theorem hfy_hp {xs : List (List Int)} (h : 0 < xs.length) (h3 : xs.length ≤ 3) (hl : Lens 3 xs) : HpM (hfy xs) :=
  supM_hp (k := 3) xs 0 0 _ rfl hl (hl.getD h) h ⟨fun i hi hil h1 h2 => by with_reducible exact (hl2 (by assumption) (by assumption) (by assumption) (by assumption)).elim, fun i hi hil h1 h2 => by with_reducible exact absurd (by assumption) (Nat.lt_asymm (by assumption))⟩
theorem few_start {t n : Nat} {ns : List Nat} (nd : ns.Nodup) (hn : n ≤ ns.length) (h0 : 0 < n) (h3 : n ≤ 3) : Few t n (ns.take n) (hfy ((List.range n).map fun k => tri t k (ns.getD k 0))) := by
  have hl : ((List.range n).map fun k => tri t k (ns.getD k 0)).length = n := by simp
  have p := hfy_perm (xs := (List.range n).map fun k => tri t k (ns.getD k 0)) (by with_reducible exact Nat.lt_of_lt_of_le (by assumption) (Nat.le_of_eq (Eq.symm (by assumption))))
  have l3 : Lens 3 ((List.range n).map fun k => tri t k (ns.getD k 0)) := fun x hx => by
    obtain ⟨k, _, rfl⟩ := List.mem_map.mp hx; rfl
  have hm : (((List.range n).map fun k => tri t k (ns.getD k 0)).map el3) = ns.take n := by
    rw [List.map_map]
    apply List.ext_getElem
    · simp; with_reducible exact mi3 (by assumption)
    · intro i h1 h2
      simp at h1 h2
      have : i < ns.length := by with_reducible exact mi13 (by assumption)
      simp [el3_tri, this]
  have pm := p.map el3
  rw [hm] at pm
  refine ⟨hfy_hp (by with_reducible exact Nat.lt_of_lt_of_le (by assumption) (Nat.le_of_eq (Eq.symm (by assumption)))) (by with_reducible exact Nat.le_trans (Nat.le_of_eq (by assumption)) (by assumption)) l3, by rw [p.length_eq]; exact hl, fun x hx => ?_, pm.nodup_iff.mpr (nd.sublist (List.take_sublist _ _)), fun e he => pm.mem_iff.mp he, fun e he hn' => absurd (pm.mem_iff.mpr he) hn'⟩
  have := p.mem_iff.mp hx
  obtain ⟨k, _, rfl⟩ := List.mem_map.mp this
  exact ⟨_, _, rfl⟩
theorem few_keep {t n : Nat} {seen : List Nat} {res : List (List Int)} (F : Few t n seen res) (hn : 0 < n) {e : Nat} (he : e ∉ seen) (h : ¬ (((e ^^^ t : Nat) : Int) < (res.getD 0 []).getD 0 0)) : Few t n (seen ++ [e]) res := by
  obtain ⟨o, r, h1, h2, h3⟩ := F.top hn
  rw [h1] at h
  have h : r ^^^ t ≤ e ^^^ t := by simp [tri] at h; with_reducible assumption
  refine ⟨F.hp, F.len, F.sh, F.nd, fun x hx => List.mem_append_left _ (F.sub x hx), fun x hx hxn y hy => ?_⟩
  rcases List.mem_append.mp hx with q | q
  · exact F.far x q hxn y hy
  · have : x = e := by simpa using q
    subst this
    have a := h3 y hy
    rcases Nat.lt_or_ge (y ^^^ t) (x ^^^ t) with z | z
    · exact z
    · exact absurd (xor_inj (Nat.le_antisymm z (by with_reducible exact Nat.le_trans (by assumption) (by assumption)))) (fun w => hxn (by rw [w]; exact hy))
theorem few_swap {t n : Nat} {seen : List Nat} {res : List (List Int)} (F : Few t n seen res) (hn : 0 < n) {e o' : Nat} (he : e ∉ seen) (h : ((e ^^^ t : Nat) : Int) < (res.getD 0 []).getD 0 0) : Few t n (seen ++ [e]) (hrep res (tri t o' e)) := by
  obtain ⟨o, r, h1, h2, h3⟩ := F.top hn
  rw [h1] at h
  have h : e ^^^ t < r ^^^ t := by simp [tri] at h; with_reducible assumption
  have h0 : 0 < res.length := by rw [F.len]; exact hn
  cases hres : res with
  | nil => rw [hres] at h0; (first | exact nsF h0 | exact snF h0 | obtain rfl := Option.some.inj h0 | cases h0)
  | cons x tl =>
    rw [hres] at h1
    have hx : x = tri t o r := h1
    obtain rfl := Eq.symm hx
    have hset : res.set 0 (tri t o' e) = tri t o' e :: tl := by rw [hres]; rfl
    have p : (hrep res (tri t o' e)).Perm (tri t o' e :: tl) := by
      have := supM_perm (res.set 0 (tri t o' e)) 0 0 ((res.set 0 (tri t o' e)).getD 0 []) (by rw [List.length_set]; exact h0)
      rw [hset] at this
      unfold hrep
      rw [hset]; exact this
    rw [← hres]
    have l3 := F.l3
    have ls : Lens 3 (res.set 0 (tri t o' e)) := l3.set rfl
    have hps : HpM (hrep res (tri t o' e)) := by
      refine supM_hp (k := 3) _ 0 0 _ rfl ls (ls.getD (by rw [List.length_set]; exact h0)) (by rw [List.length_set]; exact h0) ⟨fun i hi hil a1 a2 => ?_, fun i _ _ _ a => absurd a (Nat.lt_irrefl _)⟩
      rw [List.length_set] at hil
      rw [at_set h0, at_set h0, if_neg a1, if_neg a2]
      exact F.hp i hi hil
    have pm := p.map el3
    rw [List.map_cons, el3_tri] at pm
    have nd := F.nd
    have sub := F.sub
    have far := F.far
    rw [hres, List.map_cons, el3_tri] at nd sub far h3
    have hnd := List.nodup_cons.mp nd
    refine ⟨hps, by rw [p.length_eq, ← F.len, hres]; rfl, fun y hy => ?_, pm.nodup_iff.mpr (List.nodup_cons.mpr ⟨fun q => he (sub e (List.mem_cons_of_mem _ q)), hnd.2⟩), fun y hy => ?_, fun u hu hun y hy => ?_⟩
    · rcases List.mem_cons.mp (p.mem_iff.mp hy) with q | q
      · exact ⟨_, _, q⟩
      · exact F.sh y (by rw [hres]; exact List.mem_cons_of_mem _ q)
    · rcases List.mem_cons.mp (pm.mem_iff.mp hy) with q | q
      · obtain rfl := Eq.symm q; simp
      · exact List.mem_append_left _ (sub y (List.mem_cons_of_mem _ q))
    · have hun' : u ∉ e :: tl.map el3 := fun q => hun (pm.mem_iff.mpr q)
      rw [List.mem_cons, not_or] at hun'
      have hy' := List.mem_cons.mp (pm.mem_iff.mp hy)
      rcases List.mem_append.mp hu with q | q
      · by_cases hur : u = r
        · subst hur
          rcases hy' with w | w
          · subst w; exact h
          · have a := h3 y (List.mem_cons_of_mem _ w)
            rcases Nat.lt_or_ge (y ^^^ t) (u ^^^ t) with z | z
            · exact z
            · exact absurd (xor_inj (Nat.le_antisymm a z)) (fun k => hnd.1 (by rw [← k]; exact w))
        · have hnn : u ∉ r :: tl.map el3 := by rw [List.mem_cons, not_or]; exact ⟨hur, hun'.2⟩
          rcases hy' with w | w
          · obtain rfl := Eq.symm w
            have := far u q hnn r List.mem_cons_self
            with_reducible exact Nat.lt_of_lt_of_le (by assumption) (Nat.le_of_lt (by assumption))
          · exact far u q hnn y (List.mem_cons_of_mem _ w)
      · exact absurd (by simpa using q) hun'.1
theorem few_end {t n : Nat} {ns : List Nat} {res ys : List (List Int)} (F : Few t n ns res) (hn : n ≤ ns.length) (p : ys.Perm res) (o : ys.Pairwise fun x y => lexLt x y = true) : Nsm n t ns (ys.map el3) := by
  have pm := p.map el3
  have sh : ∀ x ∈ ys, ∃ o e : Nat, x = tri t o e := fun x hx => F.sh x (p.mem_iff.mp hx)
  have nd := pm.nodup_iff.mpr F.nd
  refine ⟨?_, fun x hx => F.sub x (pm.mem_iff.mp hx), by rw [List.length_map, p.length_eq, F.len, Nat.min_eq_left hn], fun x hx hxn y hy => F.far x hx (fun q => hxn (pm.mem_iff.mpr q)) y (pm.mem_iff.mp hy)⟩
  refine List.pairwise_map.mpr (((List.pairwise_map.mp nd).and o).imp_of_mem fun {a b} ha hb h => ?_)
  obtain ⟨o1, e1, rfl⟩ := sh a ha
  obtain ⟨o2, e2, rfl⟩ := sh b hb
  rw [el3_tri, el3_tri] at h ⊢
  have : leq (tri t o1 e1) (tri t o2 e2) := lt_leq (k := 3) rfl rfl h.2
  have := leq_fst3 this
  rcases Nat.lt_or_ge (e1 ^^^ t) (e2 ^^^ t) with z | z
  · exact z
  · exact absurd (xor_inj (Nat.le_antisymm this z)) h.1
theorem few_nodup {t n : Nat} {seen : List Nat} {res : List (List Int)} (F : Few t n seen res) : res.Nodup := (List.pairwise_map.mp F.nd).imp fun h e => h (by rw [e])
/-- the nearest alone -/
theorem nsm_one {t : Nat} {x : Nat} {r : List Nat} (nd : (x :: r).Nodup) : Nsm 1 t (x :: r) [r.foldl (fun b y => if y ^^^ t < b ^^^ t then y else b) x] := by
  have key : ∀ (r : List Nat) (b : Nat), (r.foldl (fun b y => if y ^^^ t < b ^^^ t then y else b) b) ∈ b :: r ∧ ∀ y ∈ b :: r, (r.foldl (fun b y => if y ^^^ t < b ^^^ t then y else b) b) ^^^ t ≤ y ^^^ t := by
    intro r
    induction r with
    | nil => intro b; exact ⟨by simp, fun y hy => by have : y = b := by simpa using hy
                                                     obtain rfl := Eq.symm this; exact Nat.le_refl _⟩
    | cons z r ih =>
      intro b
      rw [List.foldl_cons]
      have hw : (if z ^^^ t < b ^^^ t then z else b) ^^^ t ≤ z ^^^ t ∧ (if z ^^^ t < b ^^^ t then z else b) ^^^ t ≤ b ^^^ t ∧ ((if z ^^^ t < b ^^^ t then z else b) = z ∨ (if z ^^^ t < b ^^^ t then z else b) = b) := by
        split
        · exact ⟨Nat.le_refl _, by with_reducible exact Nat.le_of_lt (by assumption), .inl rfl⟩
        · exact ⟨by with_reducible exact Nat.le_of_not_lt (by assumption), Nat.le_refl _, .inr rfl⟩
      generalize (if z ^^^ t < b ^^^ t then z else b) = w at hw
      obtain ⟨h1, h2⟩ := ih w
      refine ⟨?_, fun y hy => ?_⟩
      · rcases List.mem_cons.mp h1 with q | q
        · rw [q]; rcases hw.2.2 with r | r <;> rw [r] <;> simp
        · simp [q]
      · have hb := h2 _ List.mem_cons_self
        rcases List.mem_cons.mp hy with q | q
        · obtain rfl := Eq.symm q; with_reducible exact no1 (by assumption) (by assumption)
        · rcases List.mem_cons.mp q with q | q
          · obtain rfl := Eq.symm q; with_reducible exact no2 (by assumption) (by assumption)
          · exact h2 y (List.mem_cons_of_mem _ q)
  obtain ⟨k1, k2⟩ := key r x
  refine ⟨by simp, fun y hy => ?_, by simp, fun y hy hn z hz => ?_⟩
  · have := List.mem_singleton.mp hy; rw [this]; exact k1
  · have := List.mem_singleton.mp hz
    obtain rfl := Eq.symm this
    have a := k2 y hy
    rcases Nat.lt_or_ge ((r.foldl (fun b y => if y ^^^ t < b ^^^ t then y else b) x) ^^^ t) (y ^^^ t) with q | q
    · exact q
    · exact absurd (xor_inj (Nat.le_antisymm q a)) fun w => hn (by rw [w]; simp)
end
section
theorem s_heapify_max {g : G} {n : Nat} (P : Prog g) {a : Addr} {xs : List (List Int)} {H : HF} {Q : PV → HF → Prop} (hH : H a = some (.list (xs.map ti))) (h2 : 2 ≤ xs.length) (h3 : xs.length ≤ 3) (hk : Lens 3 xs)
    (h : Q .none (H.set a (.list ((hfy xs).map ti)))) : Calls g (n + 3) (.ref 49) [.ref a] [] H Q := by
  have gq0 := Prog.g_len P
  have gq1 := Prog.g_range P
  have gq2 := Prog.g_reversed P
  have gq3 := Prog.g_siftup_max P
  refine calls_fnX (P.K 49 _ rfl) rfl rfl rfl (by kernel_rfl) rfl rfl rfl ⟨_, _, _, rfl, P.K _ _ rfl, rfl, rfl⟩ (binds1 (x := Str.ofString "x") P.K fun _ _ => by kernel_rfl) ?_
  walk_at "ev"
  refine ⟨trivial, calls_len hH (by simp; with_reducible exact Nat.le_trans (by assumption) (by decide)) ?_⟩
  rw [List.length_map]
  walk_at "ev"
  refine EvS_ForH (σ := Bool) (fun _ => [(Str.ofString "n", .int (xs.length : Nat)), (Str.ofString "x", .ref a)]) (fun it st => ((H.set it (.obj (rvo ((1 : Nat) - 1 - (st.toNat : Int)) ((1 : Nat) - (st.toNat : Int))))).set a (.list ((if st then hfy xs else xs).map ti)))) (fun it i st => it ≠ a ∧ i = st.toNat) rfl ?_
  walk_at "ev"
  refine bin_divN (b := 2) rfl (by decide) (by decide) ?_
  have e1 : xs.length / 2 = 1 := by with_reducible exact hl1 (by assumption) (by assumption)
  rw [e1]
  walk_at "ev"
  refine ⟨trivial, calls_range1 fun rg hrg => ?_⟩
  walk_at "ev"
  refine ⟨trivial, calls_reversed (k := 1) (HF.set_self ..) (by decide) fun it hit => ?_⟩
  obtain ⟨hir, hi⟩ := HF.set_none hit
  have hia : it ≠ a := fun q => by obtain rfl := Eq.symm q; rw [hH] at hi; (first | exact nsF hi | exact snF hi | obtain rfl := Option.some.inj hi | cases hi)
  have hra : rg ≠ a := fun q => by obtain rfl := Eq.symm q; rw [hH] at hrg; (first | exact nsF hrg | exact snF hrg | obtain rfl := Option.some.inj hrg | cases hrg)
  refine ⟨it, _, _, _, rfl, nx_rev (k := 1), HF.set_self .., ⟨false, ⟨hia, rfl⟩, ?_, ?_⟩, ?_⟩
  · walk_at "vle"
  · intro b z e
    by_cases hb : b = a
    · obtain rfl := Eq.symm hb; rw [HF.set_self] at e; rw [HF.set_other (Ne.symm hia), HF.set_other (Ne.symm hra), hH]; exact e
    · rw [HF.set_other hb] at e
      by_cases hb2 : b = it
      · obtain rfl := Eq.symm hb2; rw [HF.set_self] at e ⊢; exact e
      · rw [HF.set_other hb2] at e ⊢
        exact (HF.Le.new hrg (HF.Le.refl _)) b z e
  · rintro i st ⟨h4, rfl⟩
    refine ⟨by rw [HF.set_other h4, HF.set_self], trivial, fun p hp => ?_, fun hn => ?_⟩
    · cases st with
      | true => simp at hp
      | false =>
        have hp : p = .int (0 : Nat) := by simpa using hp.symm
        obtain rfl := Eq.symm hp
        generalize hTE : TurnEnd _ _ _ _ = TE; revert TE; refine bar ?_; intro TE hTE
        walk_at "ev"
        refine ⟨⟨_, _, P.K 77 _ rfl, rfl⟩, s_siftup_max (pos := 0) P (xs := xs) (k := 3) (by rw [HF.set_other (Ne.symm h4), HF.set_self]; rfl) (by with_reducible exact fw2 (by assumption)) (by with_reducible exact Nat.lt_of_le_of_lt (by assumption) (by decide)) hk ?_⟩
        walk_at "ev"
        refine ⟨true, ⟨h4, rfl⟩, ?_, ?_⟩
        · walk_at "vle"
        · intro b z e
          by_cases hb : b = a
          · obtain rfl := Eq.symm hb; rw [HF.set_self] at e ⊢; exact e
          · rw [HF.set_other hb] at e ⊢
            by_cases hb2 : b = it
            · obtain rfl := Eq.symm hb2; rw [HF.set_self] at e ⊢; exact e
            · rw [HF.set_other hb2] at e; rw [HF.set_other hb2, HF.set_other hb, HF.set_other hb2]; exact e
    · cases st with
      | false => simp at hn
      | true =>
        walk_at "ev"
        refine ⟨_, ?_, h⟩
        intro b z e
        by_cases hb : b = a
        · obtain rfl := Eq.symm hb; rw [HF.set_self] at e; rw [HF.del_other (Ne.symm h4), HF.set_self]; exact e
        · rw [HF.set_other hb] at e
          by_cases hb2 : b = it
          · obtain rfl := Eq.symm hb2; rw [hi] at e; (first | exact nsF e | exact snF e | obtain rfl := Option.some.inj e | cases e)
          · rw [HF.del_other hb2, HF.set_other hb, HF.set_other hb2]; exact e
end
section
section
variable {g : G} {n : Nat} {H : HF} {Q : PV → HF → Prop}
theorem s_nsm1 (P : Prog g) {l fa : Addr} {t : Nat} {ns : List Nat} (K : KeyOK g fa t) (nd : ns.Nodup) (hH : H l = some (.list (ni ns))) (h : ∀ R d, Nsm 1 t ns R → H d = none → Q (.ref d) (H.set d (.list (ni R)))) : Calls g (n + 4) (.ref 83) [.int (1 : Nat), .ref l] [(Str.ofString "key", .ref fa)] H Q := by
  have gq0 := Prog.g_iter P
  have gq1 := Prog.g_min P
  have gq2 := Prog.g_object P
  refine calls_fnX (P.K 83 _ rfl) rfl rfl rfl (by kernel_rfl) rfl rfl rfl ⟨_, _, _, rfl, P.K _ _ rfl, rfl, rfl⟩ (binds2k (x := Str.ofString "n") (y := Str.ofString "iterable") (z := Str.ofString "key") P.K fun _ _ _ _ => by kernel_rfl) ?_
  walk_at "ev"
  refine EvS_If ?_
  walk_at "ev"
  refine ⟨fun _ => ?_, fun q => (nomatch q)⟩
  walk_at "ev"
  refine ⟨trivial, calls_iter_list hH fun it hit => ?_⟩
  walk_at "ev"
  refine ⟨trivial, calls_object fun d hd => ?_⟩
  walk_at "ev"
  obtain ⟨hdi, hd⟩ := HF.set_none hd
  have hai : it ≠ l := fun q => by obtain rfl := Eq.symm q; rw [hH] at hit; (first | exact nsF hit | exact snF hit | obtain rfl := Option.some.inj hit | cases hit)
  have had : l ≠ d := fun q => by subst q; rw [hH] at hd; cases hd
  refine ⟨trivial, calls_min_key (n := n + 1) (ns := ns) K (by rw [HF.set_other (Ne.symm hdi), HF.set_self]) (by rw [HF.set_other had, HF.set_other (Ne.symm hai)]; exact hH) hai ?_⟩
  have hle : HF.Le H (((H.set it (.liter l 0)).set d .plain).del it) := HF.Le.delK hit (HF.Le.newK hd (HF.Le.newK hit (HF.Le.refl _)))
  cases ns with
  | nil =>
    rw [show minKD (.ref d) t ([] : List Nat) = .ref d from rfl]
    walk_at "ev"
    refine cmp_is_self ?_
    walk_at "ev"
    refine ⟨fun _ => ?_, fun q => (nomatch q)⟩
    walk_at "ev"
    refine ⟨by decide, fun e he => ?_⟩
    have he' : H e = none := by
      cases q : H e with
      | none => rfl
      | some x => rw [hle _ _ q] at he; (first | exact nsF he | exact snF he | obtain rfl := Option.some.inj he | cases he)
    walk_at "ev"
    exact ⟨_, HF.Le.cong hle, h [] e ⟨List.Pairwise.nil, fun _ q => absurd q List.not_mem_nil, rfl, fun _ q => absurd q List.not_mem_nil⟩ he'⟩
  | cons x r =>
    rw [show minKD (.ref d) t (x :: r) = .int (r.foldl (minK t) x : Nat) from rfl]
    walk_at "ev"
    refine cmp_is_intref ?_
    walk_at "ev"
    refine ⟨fun q => (nomatch q), fun _ => ?_⟩
    walk_at "ev"
    refine ⟨by simp, fun e he => ?_⟩
    have he' : H e = none := by
      cases q : H e with
      | none => rfl
      | some x => rw [hle _ _ q] at he; (first | exact nsF he | exact snF he | obtain rfl := Option.some.inj he | cases he)
    walk_at "ev"
    exact ⟨_, HF.Le.cong hle, h [r.foldl (minK t) x] e (nsm_one nd) he'⟩
theorem s_nsmS (P : Prog g) {l fa : Addr} {t few : Nat} {ns : List Nat} (K : KeyOK g fa t) (nd : ns.Nodup) (h2 : 2 ≤ few) (h3 : few ≤ 3) (hle : ns.length ≤ few) (hH : H l = some (.list (ni ns))) (h : ∀ R d, Nsm few t ns R → H d = none → Q (.ref d) (H.set d (.list (ni R)))) : Calls g (n + 4) (.ref 83) [.int (few : Nat), .ref l] [(Str.ofString "key", .ref fa)] H Q := by
  have gq0 := Prog.g_len P
  have gq1 := Prog.g_sorted P
  refine calls_fnX (P.K 83 _ rfl) rfl rfl rfl (by kernel_rfl) rfl rfl rfl ⟨_, _, _, rfl, P.K _ _ rfl, rfl, rfl⟩ (binds2k (x := Str.ofString "n") (y := Str.ofString "iterable") (z := Str.ofString "key") P.K fun _ _ _ _ => by kernel_rfl) ?_
  walk_at "ev"
  refine EvS_If ?_
  walk_at "ev"
  refine ⟨fun q => ?_, fun _ => ?_⟩
  · have := eq_of_beq q; with_reducible exact (fw7 (by assumption) (by assumption)).elim
  walk_at "ev"
  refine EvS_TryE ?_
  walk_at "ev"
  refine ⟨trivial, calls_len hH (by rw [ni_length]; with_reducible exact Nat.le_trans (by assumption) (Nat.le_trans (by assumption) (by decide))) ?_⟩
  rw [ni_length]
  walk_at "ev"
  refine EvS_If ?_
  walk_at "ev"
  refine ⟨fun _ => ?_, fun q => ?_⟩
  · walk_at "ev"
    refine ⟨trivial, calls_sorted_key (n := n) K hH nd (by with_reducible exact Nat.lt_of_le_of_lt (by assumption) (Nat.lt_of_le_of_lt (by assumption) (by decide))) fun ys e p1 p2 he => ?_⟩
    walk_at "ev"
    have hl := p1.length_eq
    refine sli_list (lo := none) (hi := some few) (HF.set_self ..) (by rw [ni_length]; with_reducible exact fw6 (by assumption) (by assumption) (by assumption)) fun d hd => ?_
    obtain ⟨hde, hd⟩ := HF.set_none hd
    walk_at "ev"
    have e1 : (((ni ys).drop ((none : Option Nat).getD 0)).take (min ((some few).getD (ni ys).length) (ni ys).length - (none : Option Nat).getD 0)) = ni (ys.take few) := by
      simp only [Option.getD_none, Option.getD_some, List.drop_zero, Nat.sub_zero, ni, List.length_map, ← List.map_take]
      rcases Nat.le_total few ys.length with q | q
      · rw [Nat.min_eq_left q]
      · rw [Nat.min_eq_right q, List.take_length, List.take_of_length_le q]
    rw [e1]
    refine ⟨_, ?_, h _ d (nsm_take p2 p1) hd⟩
    exact HF.Le.cong (HF.Le.newK he (HF.Le.refl _))
  · have := of_decide_eq_false q; omega
end
end
section
theorem npv_nil : NPV [] := fun _ _ e => by (first | exact nsF e | exact snF e | obtain rfl := Option.some.inj e | cases e)
theorem npv_cons {x : Str} {p : PV} {m : Vars} (h : np p = true) (k : NPV m) : NPV ((x, p) :: m) := fun y q e => by
  rw [List.lookup_cons] at e
  cases z : y == x with
  | true => rw [z] at e; (first | exact nsF e | exact snF e | obtain rfl := Option.some.inj e | cases e); exact h
  | false => rw [z] at e; exact k y q e
theorem nph_set {H : HF} {a : Addr} {x : AO} (h : npA x = true) (k : NPH H) : NPH (H.set a x) := fun b y e => by
  by_cases hb : b = a
  · obtain rfl := Eq.symm hb; rw [HF.set_self] at e; (first | exact nsF e | exact snF e | obtain rfl := Option.some.inj e | cases e); exact h
  · rw [HF.set_other hb] at e; exact k b y e
theorem npL_ni (l : List Nat) : npL (ni l) = true := by
  induction l with
  | nil => rfl
  | cons x r ih => show npL (PV.int x :: ni r) = true; unfold npL; rw [ih]; rfl
theorem take_snoc {ns : List Nat} {k : Nat} (h : k < ns.length) : ns.take (k + 1) = ns.take k ++ [ns[k]] := by rw [List.take_add_one, List.getElem?_eq_getElem h]; rfl
theorem triP_eq (t : Nat) : ∀ ys : List (List Int), (∀ x ∈ ys, ∃ o e : Nat, x = tri t o e) → (ys.map ti).filterMap (fun p => match p with | .tup [_, _, e] => some e | _ => none) = ni (ys.map el3)
  | [], _ => rfl
  | x :: r, h => by
    obtain ⟨o, e, rfl⟩ := h x (by simp)
    have ih := triP_eq t r fun y hy => h y (by simp [hy])
    rw [List.map_cons, List.filterMap_cons]
    show PV.int (e : Int) :: _ = _
    rw [ih]
    simp [ni, el3_tri]
noncomputable def triP : PV → Option PV := fun p => match p with | .tup [_, _, e] => some e | _ => none
section
variable {g : G} {n : Nat} {H : HF} {Q : PV → HF → Prop}
theorem s_nsmH (P : Prog g) {l fa : Addr} {t few : Nat} {ns : List Nat} (K : KeyOK g fa t) (nd : ns.Nodup) (h2 : 2 ≤ few) (h3 : few ≤ 3) (hlt : few < ns.length) (h64 : ns.length < 64) (hnp : NPH H) (hH : H l = some (.list (ni ns))) (h : ∀ R d, Nsm few t ns R → H d = none → Q (.ref d) (H.set d (.list (ni R)))) : Calls g (n + 4) (.ref 83) [.int (few : Nat), .ref l] [(Str.ofString "key", .ref fa)] H Q := by
  have gq0 := Prog.g_heapify_max P
  have gq1 := Prog.g_heapreplace_max P
  have gq2 := Prog.g_iter P
  have gq3 := Prog.g_len P
  have gq4 := Prog.g_range P
  have gq5 := Prog.g_zip P
  refine calls_fnX (P.K 83 _ rfl) rfl rfl rfl (by kernel_rfl) rfl rfl rfl ⟨_, _, _, rfl, P.K _ _ rfl, rfl, rfl⟩ (binds2k (x := Str.ofString "n") (y := Str.ofString "iterable") (z := Str.ofString "key") P.K fun _ _ _ _ => by kernel_rfl) ?_
  walk_at "ev"
  refine EvS_If ?_
  walk_at "ev"
  refine ⟨fun q => ?_, fun _ => ?_⟩
  · have := eq_of_beq q; with_reducible exact (fw7 (by assumption) (by assumption)).elim
  walk_at "ev"
  refine EvS_TryE ?_
  walk_at "ev"
  refine ⟨trivial, calls_len hH (by rw [ni_length]; with_reducible exact Nat.le_trans (Nat.le_of_lt (by assumption)) (by decide)) ?_⟩
  rw [ni_length]
  walk_at "ev"
  refine EvS_If ?_
  walk_at "ev"
  refine ⟨fun q => ?_, fun _ => ?_⟩
  · have := of_decide_eq_true q; omega
  walk_at "ev"
  refine EvS_If ?_
  walk_at "ev"
  refine ⟨fun q => (nomatch q), fun _ => ?_⟩
  walk_at "ev"
  refine ⟨trivial, calls_iter_list hH fun it hit => ?_⟩
  walk_at "ev"
  have hil : it ≠ l := fun q => by obtain rfl := Eq.symm q; rw [hH] at hit; (first | exact nsF hit | exact snF hit | obtain rfl := Option.some.inj hit | cases hit)
  refine EvS_AssignZip (fun k => ti (tri t k (ns.getD k 0))) [(Str.ofString "key", .ref fa)] (fun env he => by (first | exact nsF env | exact snF env | obtain rfl := Option.some.inj env | cases env); (first | exact nsF he | exact snF he | obtain rfl := Option.some.inj he | cases he); kernel_rfl) (by kernel_rfl) (by kernel_rfl) (by kernel_rfl) (by kernel_rfl) (by kernel_rfl) ?_
  walk_at "ev"
  refine ⟨trivial, calls_range1 fun rg hrg => ?_⟩
  obtain ⟨hri, hr⟩ := HF.set_none hrg
  have hrl : rg ≠ l := fun q => by obtain rfl := Eq.symm q; rw [hH] at hr; (first | exact nsF hr | exact snF hr | obtain rfl := Option.some.inj hr | cases hr)
  walk_at "ev"
  refine ⟨rfl, rg, it, l, few, ns, rfl, HF.set_self .., by rw [HF.set_other (Ne.symm hri), HF.set_self], by rw [HF.set_other (Ne.symm hrl), HF.set_other (Ne.symm hil)]; exact hH, by with_reducible exact Nat.le_of_lt (by assumption), by with_reducible exact Nat.lt_of_le_of_lt (by assumption) (by decide), npv_cons rfl npv_nil, nph_set rfl (nph_set rfl hnp), fun _ => rfl, fun i1 hi1 k hk hx => ?_, fun a ha => ?_⟩
  · walk_at "ev"
    refine ⟨rfl, ?_, ?_⟩
    · walk_at "vle"
    walk_at "ev"
    refine ⟨K.1, K.2 (n + 2) ns[k] _ _ ?_⟩
    walk_at "ev"
    refine ⟨by simp, rfl, ?_⟩
    have e1 : ns.getD k 0 = ns[k] := by simp [hx]
    rw [e1]
    rfl
  obtain ⟨har, ha2⟩ := HF.set_none ha
  obtain ⟨hai, ha3⟩ := HF.set_none ha2
  have hal : a ≠ l := fun q => by obtain rfl := Eq.symm q; rw [hH] at ha3; (first | exact nsF ha3 | exact snF ha3 | obtain rfl := Option.some.inj ha3 | cases ha3)
  rw [show ((List.range few).map fun k => ti (tri t k (ns.getD k 0))) = ((List.range few).map fun k => tri t k (ns.getD k 0)).map ti by simp]
  have hlen : ((List.range few).map fun k => tri t k (ns.getD k 0)).length = few := by simp
  have hl3 : Lens 3 ((List.range few).map fun k => tri t k (ns.getD k 0)) := fun x hx => by
    obtain ⟨k, _, rfl⟩ := List.mem_map.mp hx; rfl
  have F0 := few_start (t := t) nd (by with_reducible exact Nat.le_of_lt (by assumption)) (by with_reducible exact fw2 (by assumption)) h3
  generalize ((List.range few).map fun k => tri t k (ns.getD k 0)) = r0 at *
  walk_at "ev"
  refine EvS_If ?_
  walk_at "ev"
  refine tru_list (HF.set_self ..) (by simp; with_reducible exact Nat.le_trans (Nat.le_of_eq (by assumption)) (Nat.le_trans (by assumption) (by decide))) ?_
  rw [show (!(!(r0.map ti).isEmpty)) = false by cases r0 with
    | nil => simp at hlen; with_reducible exact (fw2b (by assumption) (by assumption)).elim
    | cons x r => rfl]
  refine ⟨fun q => (nomatch q), fun _ => ?_⟩
  walk_at "ev"
  refine ⟨⟨_, _, P.K 49 _ rfl, rfl⟩, s_heapify_max (n := n) P (HF.set_self ..) (by with_reducible exact Nat.le_trans (by assumption) (Nat.le_of_eq (Eq.symm (by assumption)))) (by with_reducible exact Nat.le_trans (Nat.le_of_eq (by assumption)) (by assumption)) hl3 ?_⟩
  rw [HF.set_set]
  generalize hfy r0 = r1 at *
  have hl1 := F0.len
  walk_at "ev"
  refine sub_listN (k := 0) rfl (HF.set_self ..) (by decide) (getD_ti (by with_reducible exact fw1 (by assumption) (by assumption))) ?_
  walk_at "ev"
  refine opq fun Gq hGq => ?_
  obtain ⟨o0, e0, t1, t2, t3⟩ := F0.top (by with_reducible exact fw2 (by assumption))
  refine hGq ?_
  have ht0 : (r1.getD 0 []).getD 0 0 = ((e0 ^^^ t : Nat) : Int) := by rw [t1]; rfl
  refine sub_tupN (k := 0) (p := .int ((r1.getD 0 []).getD 0 0)) rfl (by decide) (by rw [t1]; rfl) ?_
  walk_at "ev"
  refine EvS_ForH (σ := Nat × List (List Int) × Nat) (fun st => [(Str.ofString "_heapreplace", .ref 42), (Str.ofString "order", .int (st.2.2 : Nat)), (Str.ofString "top", .int ((st.2.1.getD 0 []).getD 0 0)), (Str.ofString "result", .ref a), (Str.ofString "key", .ref fa)])
    (fun it st => (H.set it (.liter l (few + st.1))).set a (.list (st.2.1.map ti))) (fun it' i st => it' = it ∧ st.1 = i ∧ Few t few (ns.take (few + i)) st.2.1) rfl ?_
  walk_at "ev"
  refine ⟨it, _, _, _, rfl, nx_list (l := l) (xs := ni ns) few, by rw [HF.set_other (Ne.symm hai), HF.set_self]; rfl, ⟨(0, r1, few), ⟨rfl, rfl, F0⟩, ?_, ?_⟩, ?_⟩
  · walk_at "vle"
  · intro b z e
    by_cases hb : b = a
    · obtain rfl := Eq.symm hb; rw [HF.set_self] at e ⊢; exact e
    · rw [HF.set_other hb] at e ⊢
      by_cases hb2 : b = it
      · obtain rfl := Eq.symm hb2; rw [HF.set_self] at e ⊢; exact e
      · rw [HF.set_other hb2] at e ⊢
        have hbr : b ≠ rg := fun q => by obtain rfl := Eq.symm q; rw [hr] at e; (first | exact nsF e | exact snF e | obtain rfl := Option.some.inj e | cases e)
        rw [HF.set_other hbr, HF.set_other hb2]; exact e
  rintro i ⟨i', res, od⟩ ⟨_, rfl, F⟩
  dsimp only at F ⊢
  refine ⟨by rw [HF.set_other (Ne.symm hai), HF.set_self], by rw [HF.set_other (Ne.symm hal), HF.set_other (Ne.symm hil)]; exact hH, fun p hp => ?_, fun hn => ?_⟩
  · have hlt2 : few + i' < ns.length := by
      rcases Nat.lt_or_ge (few + i') ns.length with z | z
      · exact z
      · rw [List.getElem?_drop, List.getElem?_eq_none (by rw [ni_length]; exact z)] at hp; (first | exact nsF hp | exact snF hp | obtain rfl := Option.some.inj hp | cases hp)
    have hpe : p = .int (ns[few + i'] : Nat) := by
      rw [List.getElem?_drop] at hp
      have : (ni ns)[few + i']? = some (.int (ns[few + i'] : Nat)) := by simp [ni, hlt2]
      rw [this] at hp; (first | exact nsF hp | exact snF hp | obtain rfl := Option.some.inj hp | cases hp); rfl
    obtain rfl := Eq.symm hpe
    generalize hTE : TurnEnd _ _ _ _ = TE; revert TE; refine bar ?_; intro TE hTE
    have hset : (((H.set it (.liter l (few + i'))).set a (.list (res.map ti))).set it (.liter l (few + (i' + 1)))) = ((H.set it (.liter l (few + (i' + 1)))).set a (.list (res.map ti))) := by
      rw [HF.set_comm hai, HF.set_set]
    rw [hset]
    have hmem : ns[few + i'] ∉ ns.take (few + i') := fun q => by
      obtain ⟨j, hj, e⟩ := List.mem_iff_getElem.mp q
      rw [List.getElem_take] at e
      rw [List.length_take] at hj
      exact List.pairwise_iff_getElem.mp nd j (few + i') (by with_reducible exact mi13 (by assumption)) hlt2 (by with_reducible exact mi12 (by assumption)) e
    have hlen2 := F.len
    walk_at "ev"
    refine ⟨K.1, K.2 (n + 2) ns[few + i'] _ _ ?_⟩
    walk_at "ev"
    refine EvS_If ?_
    walk_at "ev"
    refine ⟨fun hb => ?_, fun hb => ?_⟩
    · have hb := of_decide_eq_true hb
      have F2 := few_swap F (by with_reducible exact fw2 (by assumption)) (o' := od) hmem hb
      rw [← take_snoc hlt2] at F2
      walk_at "ev"
      refine ⟨by simp, ?_⟩
      walk_at "ev"
      refine ⟨⟨_, _, P.K 42 _ rfl, rfl⟩, s_heapreplace_max (n := n) (k := 3) (x := tri t od ns[few + i']) P (HF.set_self ..) (by with_reducible exact fw1 (by assumption) (by assumption)) (by with_reducible exact Nat.lt_of_le_of_lt (Nat.le_of_eq (by assumption)) (Nat.lt_of_le_of_lt (by assumption) (by decide))) F.l3 rfl ?_⟩
      rw [HF.set_set]
      generalize hrep res (tri t od ns[few + i']) = r2 at *
      have hlen3 := F2.len
      walk_at "ev"
      refine sub_listN (k := 0) rfl (HF.set_self ..) (by decide) (getD_ti (by with_reducible exact fw1 (by assumption) (by assumption))) ?_
      refine opq fun Gq hGq => ?_
      obtain ⟨o1, e1, u1, u2, u3⟩ := F2.top (by with_reducible exact fw2 (by assumption))
      refine hGq ?_
      have ht1 : (r2.getD 0 []).getD 0 0 = ((e1 ^^^ t : Nat) : Int) := by rw [u1]; rfl
      rw [u1, show ti (tri t o1 e1) = .tup [.int ((e1 ^^^ t : Nat) : Int), .int (o1 : Int), .int (e1 : Int)] from rfl]
      walk_at "ev"
      refine ibin_add ?_
      walk_at "ev"
      refine ⟨(i' + 1, r2, od + 1), ⟨rfl, rfl, F2⟩, ?_, HF.Le.refl _⟩
      dsimp only
      rw [ht1]
      walk_at "vle"
    · have hb := of_decide_eq_false hb
      have F2 := few_keep F (by with_reducible exact fw2 (by assumption)) hmem hb
      rw [← take_snoc hlt2] at F2
      walk_at "ev"
      refine ⟨(i' + 1, res, od), ⟨rfl, rfl, F2⟩, ?_, HF.Le.refl _⟩
      walk_at "vle"
  · have hge : ns.length ≤ few + i' := by
      rw [List.getElem?_drop] at hn
      rcases Nat.lt_or_ge (few + i') ns.length with z | z
      · have : (ni ns)[few + i']? = some (.int (ns[few + i'] : Nat)) := by simp [ni, z]
        rw [this] at hn; (first | exact nsF hn | exact snF hn | obtain rfl := Option.some.inj hn | cases hn)
      · exact z
    rw [List.take_of_length_le hge] at F
    have hlen2 := F.len
    walk_at "ev"
    refine meth_sort (by kernel_rfl) ?_
    walk_at "ev"
    refine ⟨a, _, rfl, by rw [HF.del_other hai, HF.set_self], ?_⟩
    walk_at "ev"
    refine calls_lsort (xs := res) (k := 2) (by rw [HF.del_other hai, HF.set_self]) F.l3 (few_nodup F) (by with_reducible exact Nat.le_trans (by assumption) (Nat.le_of_eq (Eq.symm (by assumption)))) (by with_reducible exact Nat.lt_of_le_of_lt (Nat.le_of_eq (by assumption)) (Nat.lt_of_le_of_lt (by assumption) (by decide))) fun ys p1 p2 => ?_
    have hy := p1.length_eq
    walk_at "ev"
    refine EvE_Comp1 [] triP (by kernel_rfl) (by kernel_rfl) (by kernel_rfl) ?_
    walk_at "ev"
    refine ⟨.list a (ys.map ti), rfl, HF.set_self .., by show (ys.map ti).length ≤ 100000; simp; with_reducible exact fw5 (by assumption) (by assumption) (by assumption), fun i x hx => ?_, fun d hd => ?_⟩
    · refine opq fun Gq hGq => ?_
      obtain ⟨y, hy1, rfl⟩ : ∃ y, y ∈ ys ∧ x = ti y := by
        have : x ∈ ys.map ti := List.mem_of_getElem? hx
        obtain ⟨y, q1, q2⟩ := List.mem_map.mp this
        exact ⟨y, q1, q2.symm⟩
      obtain ⟨o, e, rfl⟩ := F.sh y (p1.mem_iff.mp hy1)
      refine hGq ?_
      rw [show ti (tri t o e) = .tup [.int ((e ^^^ t : Nat) : Int), .int (o : Int), .int (e : Int)] from rfl]
      walk_at "ev"
      refine ⟨vle_nil, ?_⟩
      walk_at "ev"
      exact ⟨fun _ => by
        walk_at "ev"
        exact ⟨HF.Le.refl _, rfl⟩, fun q => (nomatch q)⟩
    · obtain ⟨hda, hd⟩ := HF.set_none hd
      have hdH : H d = none := by
        by_cases q : d = it
        · rw [q]; exact hit
        · rw [HF.del_other q, HF.set_other hda, HF.set_other q] at hd; exact hd
      have hNs := few_end F (by with_reducible exact Nat.le_of_lt (by assumption)) p1 p2
      have e9 : (Src.list a (ys.map ti)).items.filterMap triP = ni (ys.map el3) := triP_eq t ys fun x hx => F.sh x (p1.mem_iff.mp hx)
      rw [e9]
      refine ⟨_, ?_, h _ d hNs hdH⟩
      refine HF.Le.cong ?_
      intro b z e
      have hba : b ≠ a := fun q => by obtain rfl := Eq.symm q; rw [ha3] at e; (first | exact nsF e | exact snF e | obtain rfl := Option.some.inj e | cases e)
      have hbi : b ≠ it := fun q => by obtain rfl := Eq.symm q; rw [hit] at e; (first | exact nsF e | exact snF e | obtain rfl := Option.some.inj e | cases e)
      rw [HF.set_other hba, HF.del_other hbi, HF.set_other hba, HF.set_other hbi]; exact e
/-- all three ways -/
theorem s_nsm (P : Prog g) {l fa : Addr} {t few : Nat} {ns : List Nat} (K : KeyOK g fa t) (nd : ns.Nodup) (h1 : 1 ≤ few) (h3 : few ≤ 3) (h64 : ns.length < 64) (hH : H l = some (.list (ni ns))) (h : ∀ R d, Nsm few t ns R → H d = none → Q (.ref d) (H.set d (.list (ni R)))) : Calls g (n + 4) (.ref 83) [.int (few : Nat), .ref l] [(Str.ofString "key", .ref fa)] H Q := by
  by_cases e1 : few = 1
  · obtain rfl := Eq.symm e1; exact s_nsm1 P K nd hH h
  · by_cases e2 : ns.length ≤ few
    · exact s_nsmS P K nd (by with_reducible exact fw3 (by assumption) (by assumption)) h3 e2 hH h
    · let H0 : HF := fun b => if b = l then H l else match H b with
        | some (.obj o) => some (.obj o)
        | _ => none
      have hl0 : H0 l = some (.list (ni ns)) := by show (if l = l then H l else _) = _; rw [if_pos rfl]; exact hH
      have hle : H0.Le H := fun b x e => by
        by_cases q : b = l
        · obtain rfl := Eq.symm q; rw [hl0] at e; rw [hH]; exact e
        · have e : (match H b with
            | some (.obj o) => some (.obj o)
            | _ => none) = some x := by rw [← e]; show _ = if b = l then H l else _; rw [if_neg q]
          split at e
          · rename_i o hb; rw [hb]; exact e
          · (first | exact nsF e | exact snF e | obtain rfl := Option.some.inj e | cases e)
      refine calls_frame (H0 := H0) (Q0 := fun v H' => ∃ R d, v = .ref d ∧ H' = H0.set d (.list (ni R)) ∧ Nsm few t ns R ∧ H0 d = none) hle (fun b x e1 e2 o e3 => ?_) ?_ fun v H0' q hn => ?_
      · obtain rfl := Eq.symm e3
        by_cases q : b = l
        · obtain rfl := Eq.symm q; rw [hl0] at e1; (first | exact nsF e1 | exact snF e1 | obtain rfl := Option.some.inj e1 | cases e1)
        · have : H0 b = some (.obj o) := by show (if b = l then H l else _) = _; rw [if_neg q, e2]
          rw [this] at e1; (first | exact nsF e1 | exact snF e1 | obtain rfl := Option.some.inj e1 | cases e1)
      · refine s_nsmH P K nd (by with_reducible exact fw3 (by assumption) (by assumption)) h3 (by with_reducible exact Nat.lt_of_not_le (by assumption)) h64 (fun b x e => ?_) hl0 fun R d hR hd => ⟨R, d, rfl, rfl, hR, hd⟩
        by_cases q : b = l
        · obtain rfl := Eq.symm q; rw [hl0] at e; (first | exact nsF e | exact snF e | obtain rfl := Option.some.inj e | cases e); exact npL_ni ns
        · have e : (match H b with
            | some (.obj o) => some (.obj o)
            | _ => none) = some x := by rw [← e]; show _ = if b = l then H l else _; rw [if_neg q]
          split at e
          · (first | exact nsF e | exact snF e | obtain rfl := Option.some.inj e | cases e); rfl
          · (first | exact nsF e | exact snF e | obtain rfl := Option.some.inj e | cases e)
      · refine opq fun Gq hGq => ?_
        obtain ⟨R, d, rfl, rfl, hR, hd⟩ := q
        refine hGq ?_
        have hdH : H d = none := by
          cases z : H d with
          | none => rfl
          | some x => have := hn d x hd z; rw [HF.set_self] at this; cases this
        refine ⟨_, ?_, h R d hR hdH⟩
        intro b z e
        by_cases hb : b = d
        · subst hb; rw [HF.set_self] at e; show (match H0.set b _ b with | some x => some x | none => _) = _; rw [HF.set_self]; exact e
        · rw [HF.set_other hb] at e
          show (match H0.set d _ b with | some x => some x | none => match H0 b with | some _ => none | none => H b) = _
          rw [HF.set_other hb]
          cases z0 : H0 b with
          | some x => have := hle b x z0; rw [this] at e; (first | exact nsF e | exact snF e | obtain rfl := Option.some.inj e | cases e); rfl
          | none => exact e
end
end
section
section
variable {g : G} {n : Nat} {H : HF} {Q : PV → HF → Prop}
noncomputable def drain (lc : Nat) (out : List Nat) (lb : Nat) : List Nat × Nat :=
  if h : 6 ≤ lb then drain lc (out ++ [tv (lc / 2 ^ (lb - 6) % 64)]) (lb - 6) else (out, lb)
termination_by lb
noncomputable def stepB (st : List Nat × Nat × Nat) (b : Nat) : List Nat × Nat × Nat :=
  ((drain ((st.2.2 * 256 + b) % 65536) st.1 (st.2.1 + 8)).1, (drain ((st.2.2 * 256 + b) % 65536) st.1 (st.2.1 + 8)).2, (st.2.2 * 256 + b) % 65536)
noncomputable def encP : List Nat → List Nat
  | a :: b :: c :: r => tv (a / 4) :: tv (a % 4 * 16 + b / 16) :: tv (b % 16 * 4 + c / 64) :: tv (c % 64) :: encP r
  | [a, b] => [tv (a / 4), tv (a % 4 * 16 + b / 16), tv (b % 16 * 4), 61]
  | [a] => [tv (a / 4), tv (a % 4 * 16), 61, 61]
  | [] => []
theorem drain8 (lc : Nat) (out : List Nat) : drain lc out 8 = (out ++ [tv (lc / 4 % 64)], 2) := by
  rw [drain, dif_pos (by decide), drain, dif_neg (by decide)]
theorem drain10 (lc : Nat) (out : List Nat) : drain lc out 10 = (out ++ [tv (lc / 16 % 64)], 4) := by
  rw [drain, dif_pos (by decide), drain, dif_neg (by decide)]
theorem drain12 (lc : Nat) (out : List Nat) : drain lc out 12 = (out ++ [tv (lc / 64 % 64), tv (lc % 64)], 0) := by
  rw [drain, dif_pos (by decide), drain, dif_pos (by decide), drain, dif_neg (by decide)]
  simp
theorem stepB0 (out : List Nat) (lc b : Nat) : stepB (out, 0, lc) b = (out ++ [tv ((lc * 256 + b) % 65536 / 4 % 64)], 2, (lc * 256 + b) % 65536) := by
  unfold stepB; simp only [Nat.zero_add, drain8]
theorem stepB2 (out : List Nat) (lc b : Nat) : stepB (out, 2, lc) b = (out ++ [tv ((lc * 256 + b) % 65536 / 16 % 64)], 4, (lc * 256 + b) % 65536) := by
  unfold stepB; simp only [show 2 + 8 = 10 from rfl, drain10]
theorem stepB4 (out : List Nat) (lc b : Nat) : stepB (out, 4, lc) b = (out ++ [tv ((lc * 256 + b) % 65536 / 64 % 64), tv ((lc * 256 + b) % 65536 % 64)], 0, (lc * 256 + b) % 65536) := by
  unfold stepB; simp only [show 4 + 8 = 12 from rfl, drain12]
theorem pk_div {x y k : Nat} (h : y < k) : (x * k + y) / k = x := by rw [Nat.mul_comm, Nat.mul_add_div (Nat.lt_of_le_of_lt (Nat.zero_le _) h), Nat.div_eq_of_lt h, Nat.add_zero]
theorem pk_mod {x y k : Nat} (h : y < k) : (x * k + y) % k = y := by rw [Nat.add_comm, Nat.add_mul_mod_self_right, Nat.mod_eq_of_lt h]
theorem pk_dm (a k : Nat) : a / k * k + a % k = a := by rw [Nat.mul_comm]; exact Nat.div_add_mod a k
theorem r3 (n : Nat) : (n + 1 + 1 + 1) % 3 = n % 3 := Nat.add_mod_right n 3
theorem lowB {x a : Nat} (h : a < 256) : (x * 256 + a) % 65536 % 256 = a := by rw [Nat.mod_mod_of_dvd _ (by decide), pk_mod h]
theorem highB {x a : Nat} (h : a < 256) : (x * 256 + a) % 65536 / 256 % 4 = x % 4 := by
  rw [show 65536 = 256 * 256 from rfl, Nat.mod_mul_right_div_self, pk_div h, Nat.mod_mod_of_dvd _ (by decide)]
theorem highC {x a : Nat} (h : a < 256) : (x * 256 + a) % 65536 / 256 % 16 = x % 16 := by
  rw [show 65536 = 256 * 256 from rfl, Nat.mod_mul_right_div_self, pk_div h, Nat.mod_mod_of_dvd _ (by decide)]
theorem cutA (y : Nat) : y / 4 % 64 = y % 256 / 4 := (Nat.mod_mul_right_div_self y 4 64).symm
theorem cutB (y : Nat) : y / 16 % 64 = y / 256 % 4 * 16 + y % 256 / 16 := by
  rw [show y / 256 = y / 16 / 16 from (Nat.div_div_eq_div_mul y 16 16).symm, show y % 256 / 16 = y / 16 % 16 from Nat.mod_mul_right_div_self y 16 16]
  rw [show 64 = 16 * 4 from rfl, Nat.mod_mul, Nat.add_comm, Nat.mul_comm 16]
theorem cutC (y : Nat) : y / 64 % 64 = y / 256 % 16 * 4 + y % 256 / 64 := by
  rw [show y / 256 = y / 64 / 4 from (Nat.div_div_eq_div_mul y 64 4).symm, show y % 256 / 64 = y / 64 % 4 from Nat.mod_mul_right_div_self y 64 4]
  rw [show (64 : Nat) = 4 * 16 from rfl, Nat.mod_mul, Nat.add_comm, Nat.mul_comm 4 (_ / 4 % 16)]
theorem cutD (y : Nat) : y % 64 = y % 256 % 64 := (Nat.mod_mod_of_dvd y (by decide)).symm
theorem mod4 (y : Nat) : y % 4 = y % 256 % 4 := (Nat.mod_mod_of_dvd y (by decide)).symm
theorem mod16 (y : Nat) : y % 16 = y % 256 % 16 := (Nat.mod_mod_of_dvd y (by decide)).symm
theorem steps3 {a b c lc : Nat} {out : List Nat} (ha : a < 256) (hb : b < 256) (hc : c < 256) :
    ∃ lc', stepB (stepB (stepB (out, 0, lc) a) b) c = (out ++ [tv (a / 4), tv (a % 4 * 16 + b / 16), tv (b % 16 * 4 + c / 64), tv (c % 64)], 0, lc') := by
  refine ⟨(((lc * 256 + a) % 65536 * 256 + b) % 65536 * 256 + c) % 65536, ?_⟩
  rw [stepB0, stepB2, stepB4, cutA, lowB ha, cutB, lowB hb, highB hb, mod4, lowB ha, cutC, highC hc, lowB hc, mod16, lowB hb, cutD ((((lc * 256 + a) % 65536 * 256 + b) % 65536 * 256 + c) % 65536), lowB hc]
  simp
theorem foldB : ∀ (l : List Nat) (out : List Nat) (lc : Nat), Small l → ∃ lc' o, l.foldl stepB (out, 0, lc) = (o, 2 * (l.length % 3), lc') ∧ (l.length % 3 = 0 → o = out ++ encP l) ∧
    (l.length % 3 = 1 → o ++ [tv (lc' % 4 * 16), 61, 61] = out ++ encP l) ∧ (l.length % 3 = 2 → o ++ [tv (lc' % 16 * 4), 61] = out ++ encP l)
  | [], out, lc, _ => ⟨lc, out, rfl, fun _ => by simp [encP], fun h => by simp at h, fun h => by simp at h⟩
  | [a], out, lc, hs => by
    have ha := hs a (by simp)
    refine ⟨_, _, by rw [List.foldl_cons, List.foldl_nil, stepB0]; rfl, fun h => by simp at h, fun _ => ?_, fun h => by simp at h⟩
    rw [cutA, lowB ha, mod4, lowB ha]
    simp [encP]
  | [a, b], out, lc, hs => by
    have ha := hs a (by simp); have hb := hs b (by simp)
    refine ⟨_, _, by rw [List.foldl_cons, List.foldl_cons, List.foldl_nil, stepB0, stepB2]; rfl, fun h => by simp at h, fun h => by simp at h, fun _ => ?_⟩
    rw [cutA, lowB ha, cutB, lowB hb, highB hb, mod4, lowB ha, mod16, lowB hb]
    simp [encP]
  | a :: b :: c :: r, out, lc, hs => by
    refine opq fun Gq hGq => ?_
    obtain ⟨lc1, e1⟩ := steps3 (lc := lc) (out := out) (hs a (by simp)) (hs b (by simp)) (hs c (by simp))
    obtain ⟨lc2, o, e2, h0, h1, h2⟩ := foldB r (out ++ [tv (a / 4), tv (a % 4 * 16 + b / 16), tv (b % 16 * 4 + c / 64), tv (c % 64)]) lc1 (fun x hx => hs x (by simp [hx]))
    refine hGq ?_
    have em : (a :: b :: c :: r).length % 3 = r.length % 3 := r3 _
    rw [em]
    refine ⟨lc2, o, ?_, fun h => ?_, fun h => ?_, fun h => ?_⟩
    · rw [List.foldl_cons, List.foldl_cons, List.foldl_cons, e1, e2]
    · rw [h0 h]; simp [encP]
    · rw [h1 h]; simp [encP]
    · rw [h2 h]; simp [encP]
theorem encP_small : ∀ (l : List Nat), Small l → Small (encP l)
  | a :: b :: c :: r, hs, x, hx => by
    have h1 := hs a (by simp); have h2 := hs b (by simp); have h3 := hs c (by simp)
    simp only [encP, List.mem_cons] at hx
    rcases hx with rfl | rfl | rfl | rfl | hx
    · exact tv_lt (by with_reducible exact sx1 (by assumption))
    · exact tv_lt (by with_reducible exact sx2 _ (by assumption))
    · exact tv_lt (by with_reducible exact sx3 _ (by assumption))
    · exact tv_lt (by with_reducible exact Nat.mod_lt _ (by decide))
    · exact encP_small r (fun x hx => hs x (by simp [hx])) x hx
  | [], _, x, hx => by simp [encP] at hx
  | [a], hs, x, hx => by
    have h1 := hs a (by simp)
    simp only [encP, List.mem_cons, List.not_mem_nil, or_false] at hx
    rcases hx with rfl | rfl | rfl | rfl
    · exact tv_lt (by with_reducible exact sx1 (by assumption))
    · exact tv_lt (by with_reducible exact dv18 _)
    · decide
    · decide
  | [a, b], hs, x, hx => by
    have h1 := hs a (by simp); have h2 := hs b (by simp)
    simp only [encP, List.mem_cons, List.not_mem_nil, or_false] at hx
    rcases hx with rfl | rfl | rfl | rfl
    · exact tv_lt (by with_reducible exact sx1 (by assumption))
    · exact tv_lt (by with_reducible exact sx2 _ (by assumption))
    · exact tv_lt (by with_reducible exact dv17 _)
    · decide
theorem encP_len : ∀ (l : List Nat), (encP l).length ≤ 2 * l.length + 4
  | a :: b :: c :: r => by have := encP_len r; simp [encP]; with_reducible exact en1 (by assumption)
  | [] => by simp [encP]
  | [_] => by simp [encP]
  | [_, _] => by simp [encP]
theorem drain_len (lc : Nat) (out : List Nat) (lb : Nat) : (drain lc out lb).1.length ≤ out.length + lb ∧ (drain lc out lb).2 < 6 := by
  fun_induction drain lc out lb with
  | case1 out lb h ih => simp at ih; with_reducible exact dr1 (by assumption) (by assumption)
  | case2 out lb h => simp; with_reducible exact Nat.lt_of_not_le (by assumption)
theorem foldB_len : ∀ (l : List Nat) (out : List Nat) (lb lc : Nat), lb < 6 → lc < 65536 → (l.foldl stepB (out, lb, lc)).1.length ≤ out.length + 14 * l.length ∧ (l.foldl stepB (out, lb, lc)).2.1 < 6 ∧ (l.foldl stepB (out, lb, lc)).2.2 < 65536
  | [], out, lb, lc, h, h' => by simp; exact ⟨h, h'⟩
  | b :: l, out, lb, lc, h, h' => by
    rw [List.foldl_cons]
    obtain ⟨d1, d2⟩ := drain_len ((lc * 256 + b) % 65536) out (lb + 8)
    obtain ⟨i1, i2⟩ := foldB_len l (stepB (out, lb, lc) b).1 (stepB (out, lb, lc) b).2.1 (stepB (out, lb, lc) b).2.2 d2 (show (lc * 256 + b) % 65536 < 65536 by with_reducible exact Nat.mod_lt _ (by decide))
    refine ⟨?_, i2⟩
    have d1 : (stepB (out, lb, lc) b).1.length ≤ out.length + (lb + 8) := d1
    have i1 : (List.foldl stepB (stepB (out, lb, lc) b) l).1.length ≤ (stepB (out, lb, lc) b).1.length + 14 * l.length := i1
    simp only [List.length_cons]
    exact fb1 h d1 i1
theorem take_succ_of {α : Type} {l : List α} {i : Nat} {x : α} (h : l[i]? = some x) : l.take (i + 1) = l.take i ++ [x] := by
  rw [List.take_add_one, h]; rfl
theorem take_all {α : Type} {l : List α} {i : Nat} (h : l.length ≤ i) : l.take i = l := List.take_of_length_le h
theorem s_b2a (P : Prog g) {l : List Nat} (hs : Small l) (hn : l.length ≤ 1000) (h : Q (.bytes (by8 (encP l))) H) : Calls g (n + 2) (.ref 148) [.bytes (by8 l)] [(Str.ofString "newline", .bool false)] H Q := by
  have gq0 := Prog.g_B64 P
  have gq1 := Prog.g_buffer P
  have gq2 := Prog.g_bytes P
  have gq3 := Prog.g_truth P
  refine calls_fnX (P.K 148 _ rfl) rfl rfl rfl (by kernel_rfl) rfl rfl rfl ⟨_, _, _, rfl, P.K _ _ rfl, rfl, rfl⟩ (binds1k (x := Str.ofString "data") (y := Str.ofString "newline") P.K fun _ _ _ => by kernel_rfl) ?_
  walk_at "ev"
  refine ⟨⟨_, _, P.K 118 _ rfl, rfl⟩, s_buffer P ?_⟩
  walk_at "ev"
  refine ⟨⟨_, _, P.K 125 _ rfl, rfl⟩, s_truth P ?_⟩
  walk_at "ev"
  refine ⟨by decide, fun a ha => ?_⟩
  walk_at "ev"
  refine EvS_For (σ := List Nat × Nat × Nat) (fun st => [(Str.ofString "out", .ref a), (Str.ofString "newline", .bool false), (Str.ofString "leftbits", .int st.2.1), (Str.ofString "leftchar", .int st.2.2)]) (fun st => H.set a (.list (ni st.1)))
    (fun i st => st = (l.take i).foldl stepB ([], 0, 0)) rfl ?_
  walk_at "ev"
  refine ⟨.bytes (by8 l), rfl, trivial, ⟨([], 0, 0), rfl, (by walk_at "vle"), HF.Le.refl _⟩, fun i st hS => ⟨trivial, fun x hx => ?_, fun hx => ?_⟩⟩
  · rw [by8_items hs] at hx
    refine opq fun Gq hGq => ?_
    obtain ⟨b, hb, rfl⟩ := ni_get hx
    have hb2 : b < 256 := hs b (List.mem_of_getElem? hb)
    obtain ⟨out, lb, lc⟩ := st
    obtain ⟨k1, k2, k3⟩ := foldB_len (l.take i) [] 0 0 (by decide) (by decide)
    refine hGq ?_
    rw [← hS] at k1 k2 k3
    have hl' : (l.take i).length ≤ 1000 := by rw [List.length_take]; with_reducible exact mi1 (by assumption)
    simp only [List.length_nil] at k1 k2 k3
    have hS2 : (l.take (i + 1)).foldl stepB ([], 0, 0) = stepB (out, lb, lc) b := by
      rw [take_succ_of hb, List.foldl_append, ← hS]; rfl
    dsimp only at hS ⊢
    generalize hTE : TurnEnd _ _ _ _ = TE; revert TE; refine bar ?_; intro TE hTE
    walk_at "ev"
    refine bin_shlN 8 rfl (by decide) (by with_reducible exact Nat.lt_of_lt_of_le (by assumption) (by decide)) ?_
    walk_at "ev"
    refine bin_orN 8 hb2 ?_
    walk_at "ev"
    refine bin_mask 16 rfl ?_
    walk_at "ev"
    refine EvS_While (σ := List Nat × Nat) (fun s2 => [(Str.ofString "out", .ref a), (Str.ofString "newline", .bool false), (Str.ofString "leftbits", .int s2.2), (Str.ofString "leftchar", .int ((lc * 2 ^ 8 + b) % 2 ^ 16 : Nat))]) (fun s2 => H.set a (.list (ni s2.1)))
      (fun s2 => drain ((lc * 256 + b) % 65536) s2.1 s2.2 = drain ((lc * 256 + b) % 65536) out (lb + 8) ∧ s2.2 < 15 ∧ s2.1.length + s2.2 ≤ 14 * 1000 + 14) (fun s2 => s2.2) ⟨(out, lb + 8), ⟨rfl, by simp only; with_reducible exact b6g (by assumption), by simp only; with_reducible exact b6h (by assumption) (by assumption) (by assumption)⟩, (by walk_at "vle"), HF.Le.refl _⟩ ?_
    rintro ⟨o2, l2⟩ ⟨j1, j2, j3⟩
    dsimp only at j1 j2 j3 ⊢
    generalize hTE : TurnEnd _ _ _ _ = TE; revert TE; refine bar ?_; intro TE hTE
    rw [drain] at j1
    walk_at "ev"
    refine ⟨fun ht => ?_, fun ht => ?_⟩
    · have ht := of_decide_eq_true ht
      rw [dif_pos (by with_reducible exact b6a (by assumption))] at j1
      walk_at "ev"
      refine ⟨a, _, rfl, HF.set_self .., ?_⟩
      walk_at "ev"
      refine bin_shrN (l2 - 6) (by with_reducible exact b6b (by assumption)) ?_
      walk_at "ev"
      refine bin_mask 6 rfl ?_
      refine sub_bytesN rfl (by rw [show b64tab.length = 64 from rfl]; with_reducible exact Nat.mod_lt _ (by decide)) (by decide) ?_
      walk_at "ev"
      refine calls_append (HF.set_self ..) (by rw [ni_length]; with_reducible exact b6f (by assumption)) ?_
      rw [HF.set_set]
      walk_at "ev"
      refine ⟨(o2 ++ [tv ((lc * 256 + b) % 65536 / 2 ^ (l2 - 6) % 64)], l2 - 6), ⟨⟨j1, by simp only; with_reducible exact b6c (by assumption), by simp only [List.length_append, List.length_singleton]; with_reducible exact b6e (by assumption) (by assumption)⟩, by simp only; with_reducible exact b6d (by assumption)⟩, (by walk_at "vle"), ?_⟩
      rw [ni_append]
      exact HF.Le.refl _
    · have ht := of_decide_eq_false ht
      rw [dif_neg (by (intro _; with_reducible exact b6a' (by assumption) (by assumption)))] at j1
      walk_at "ev"
      refine ⟨(o2, l2, (lc * 256 + b) % 65536), ?_, (by walk_at "vle"), HF.Le.refl _⟩
      rw [hS2]
      unfold stepB
      simp only [← j1]
  · rw [by8_items hs] at hx
    have hi := ni_get_none hx
    rw [take_all hi] at hS
    refine opq fun Gq hGq => ?_
    obtain ⟨k1, k2, k3⟩ := foldB_len l [] 0 0 (by decide) (by decide)
    obtain ⟨lc, o, e, h0, h1, h2⟩ := foldB l [] 0 hs
    rw [e] at hS k1 k3
    subst hS
    refine hGq ?_
    simp only [List.length_nil, Nat.zero_add] at k1
    have k3 : lc < 65536 := k3
    have fin2 := encP_small l hs
    have fin3 := encP_len l
    dsimp only
    rcases (by with_reducible exact t3 _ : l.length % 3 = 0 ∨ l.length % 3 = 1 ∨ l.length % 3 = 2) with hm | hm | hm
    · rw [hm]
      have ho := h0 hm
      rw [List.nil_append] at ho
      subst ho
      walk_at "ev"
      refine EvS_If ?_
      walk_at "ev"
      refine ⟨fun q => (nomatch q), fun _ => ?_⟩
      walk_at "ev"
      refine EvS_If ?_
      walk_at "ev"
      refine ⟨fun q => (nomatch q), fun _ => ?_⟩
      walk_at "ev"
      refine EvS_If ?_
      walk_at "ev"
      refine ⟨fun q => (nomatch q), fun _ => ?_⟩
      walk_at "ev"
      refine ⟨trivial, calls_bytesN (HF.set_self ..) fin2 (Nat.le_trans fin3 (by with_reducible exact tw1 (by assumption))) ?_⟩
      walk_at "ev"
      exact ⟨H, HF.Le.new ha (HF.Le.refl _), h⟩
    · rw [hm]
      have ho := h1 hm
      rw [List.nil_append] at ho
      walk_at "ev"
      refine EvS_If ?_
      walk_at "ev"
      refine ⟨fun _ => ?_, fun q => (nomatch q)⟩
      walk_at "ev"
      refine ⟨a, _, rfl, HF.set_self .., ?_⟩
      walk_at "ev"
      refine bin_mask 2 rfl ?_
      walk_at "ev"
      refine bin_shlN (a := lc % 2 ^ 2) 4 rfl (by decide) (by with_reducible exact dv20 _) ?_
      refine sub_bytesN rfl (by rw [show b64tab.length = 64 from rfl]; with_reducible exact dv18 _) (by decide) ?_
      walk_at "ev"
      refine calls_append (HF.set_self ..) (by rw [ni_length]; with_reducible exact tw4 (by assumption) (by assumption)) ?_
      rw [HF.set_set]
      walk_at "ev"
      refine ⟨a, _, rfl, HF.set_self .., ?_⟩
      walk_at "ev"
      refine calls_append (HF.set_self ..) (by simp [ni]; with_reducible exact tw3 (by assumption) (by assumption)) ?_
      rw [HF.set_set]
      walk_at "ev"
      refine ⟨a, _, rfl, HF.set_self .., ?_⟩
      walk_at "ev"
      refine calls_append (HF.set_self ..) (by simp [ni]; with_reducible exact tw2 (by assumption) (by assumption)) ?_
      rw [HF.set_set]
      have e2 : ni o ++ [PV.int ((b64tab.getD (lc % 2 ^ 2 * 2 ^ 4) 0).toNat : Nat)] ++ [PV.int 61] ++ [PV.int 61] = ni (encP l) := by
        rw [← ho, ni_append]; simp [ni, tv]
      rw [e2]
      walk_at "ev"
      refine EvS_If ?_
      walk_at "ev"
      refine ⟨fun q => (nomatch q), fun _ => ?_⟩
      walk_at "ev"
      refine ⟨trivial, calls_bytesN (HF.set_self ..) fin2 (Nat.le_trans fin3 (by with_reducible exact tw1 (by assumption))) ?_⟩
      walk_at "ev"
      exact ⟨H, HF.Le.new ha (HF.Le.refl _), h⟩
    · rw [hm]
      have ho := h2 hm
      rw [List.nil_append] at ho
      walk_at "ev"
      refine EvS_If ?_
      walk_at "ev"
      refine ⟨fun q => (nomatch q), fun _ => ?_⟩
      walk_at "ev"
      refine EvS_If ?_
      walk_at "ev"
      refine ⟨fun _ => ?_, fun q => (nomatch q)⟩
      walk_at "ev"
      refine ⟨a, _, rfl, HF.set_self .., ?_⟩
      walk_at "ev"
      refine bin_mask 4 rfl ?_
      walk_at "ev"
      refine bin_shlN (a := lc % 2 ^ 4) 2 rfl (by decide) (by with_reducible exact dv19 _) ?_
      refine sub_bytesN rfl (by rw [show b64tab.length = 64 from rfl]; with_reducible exact dv17 _) (by decide) ?_
      walk_at "ev"
      refine calls_append (HF.set_self ..) (by rw [ni_length]; with_reducible exact tw4 (by assumption) (by assumption)) ?_
      rw [HF.set_set]
      walk_at "ev"
      refine ⟨a, _, rfl, HF.set_self .., ?_⟩
      walk_at "ev"
      refine calls_append (HF.set_self ..) (by simp [ni]; with_reducible exact tw3 (by assumption) (by assumption)) ?_
      rw [HF.set_set]
      have e2 : ni o ++ [PV.int ((b64tab.getD (lc % 2 ^ 4 * 2 ^ 2) 0).toNat : Nat)] ++ [PV.int 61] = ni (encP l) := by
        rw [← ho, ni_append]; simp [ni, tv]
      rw [e2]
      walk_at "ev"
      refine EvS_If ?_
      walk_at "ev"
      refine ⟨fun q => (nomatch q), fun _ => ?_⟩
      walk_at "ev"
      refine ⟨trivial, calls_bytesN (HF.set_self ..) fin2 (Nat.le_trans fin3 (by with_reducible exact tw1 (by assumption))) ?_⟩
      walk_at "ev"
      exact ⟨H, HF.Le.new ha (HF.Le.refl _), h⟩
theorem s_b64encode (P : Prog g) {l : List Nat} (hs : Small l) (hn : l.length ≤ 1000) (h : Q (.bytes (by8 (encP l))) H) : Calls g (n + 3) (.ref 156) [.bytes (by8 l)] [] H Q := by
  have gq0 := Prog.g_b2a_base64 P
  refine calls_fnX (P.K 156 _ rfl) rfl rfl rfl (by kernel_rfl) rfl rfl rfl ⟨_, _, _, rfl, P.K _ _ rfl, rfl, rfl⟩ (binds1n (x := Str.ofString "s") (y := Str.ofString "altchars") (z := Str.ofString "s") P.K fun _ _ => by kernel_rfl) ?_
  walk_at "ev"
  refine ⟨⟨_, _, P.K 148 _ rfl, rfl⟩, s_b2a P hs hn ?_⟩
  walk_at "ev"
  refine EvS_If ?_
  walk_at "ev"
  refine ⟨fun q => (nomatch q), fun _ => ?_⟩
  walk_at "ev"
  exact ⟨_, HF.Le.refl _, h⟩
end
end
section
section
variable {g : G} {n : Nat} {H : HF} {Q : PV → HF → Prop}
noncomputable def stepA (st : List Nat × Nat × Nat) (v : Nat) : List Nat × Nat × Nat :=
  if st.2.1 = 0 then (st.1, 1, v)
  else if st.2.1 = 1 then (st.1 ++ [st.2.2 * 4 + v / 16], 2, v % 16)
  else if st.2.1 = 2 then (st.1 ++ [st.2.2 * 16 + v / 4], 3, v % 4)
  else (st.1 ++ [st.2.2 * 64 + v], 0, 0)
/-- in six bits -/
noncomputable def sixP : List Nat → List Nat
  | a :: b :: c :: r => (a / 4) :: (a % 4 * 16 + b / 16) :: (b % 16 * 4 + c / 64) :: (c % 64) :: sixP r
  | [a, b] => [a / 4, a % 4 * 16 + b / 16, b % 16 * 4]
  | [a] => [a / 4, a % 4 * 16]
  | [] => []
theorem encP_six : ∀ l : List Nat, encP l = (sixP l).map tv ++ List.replicate ((3 - l.length % 3) % 3) 61
  | a :: b :: c :: r => by
    have em : (a :: b :: c :: r).length % 3 = r.length % 3 := r3 _
    rw [em]
    simp [encP, sixP, encP_six r]
  | [] => rfl
  | [_] => rfl
  | [_, _] => rfl
theorem sixP_small : ∀ (l : List Nat), Small l → ∀ x ∈ sixP l, x < 64
  | a :: b :: c :: r, hs, x, hx => by
    have h1 := hs a (by simp); have h2 := hs b (by simp); have h3 := hs c (by simp)
    simp only [sixP, List.mem_cons] at hx
    rcases hx with rfl | rfl | rfl | rfl | hx
    · with_reducible exact sx1 (by assumption)
    · with_reducible exact sx2 _ (by assumption)
    · with_reducible exact sx3 _ (by assumption)
    · with_reducible exact Nat.mod_lt _ (by decide)
    · exact sixP_small r (fun x hx => hs x (by simp [hx])) x hx
  | [], _, x, hx => by simp [sixP] at hx
  | [a], hs, x, hx => by
    have h1 := hs a (by simp)
    simp only [sixP, List.mem_cons, List.not_mem_nil, or_false] at hx
    rcases hx with rfl | rfl <;> (first | with_reducible exact dv18 _ | with_reducible exact sx1 (by assumption))
  | [a, b], hs, x, hx => by
    have h1 := hs a (by simp); have h2 := hs b (by simp)
    simp only [sixP, List.mem_cons, List.not_mem_nil, or_false] at hx
    rcases hx with rfl | rfl | rfl <;> (first | with_reducible exact dv17 _ | with_reducible exact sx1 (by assumption) | with_reducible exact sx2 _ (by assumption))
noncomputable def qOf (m : Nat) : Nat := if m = 0 then 0 else m + 1
theorem foldA : ∀ (l : List Nat) (out : List Nat), Small l → ∃ lc, (sixP l).foldl stepA (out, 0, 0) = (out ++ l, qOf (l.length % 3), lc)
  | [], out, _ => ⟨0, by simp [sixP, qOf]⟩
  | [a], out, hs => by
    have h1 := hs a (by simp)
    have x1 : a / 4 * 4 + (a % 4 * 16) / 16 = a := by rw [Nat.mul_div_cancel _ (by decide)]; exact pk_dm a 4
    refine ⟨a % 4 * 16 % 16, ?_⟩
    show (out ++ [a / 4 * 4 + (a % 4 * 16) / 16], 2, a % 4 * 16 % 16) = _
    rw [x1]; rfl
  | [a, b], out, hs => by
    have h1 := hs a (by simp); have h2 := hs b (by simp)
    have x1 : a / 4 * 4 + (a % 4 * 16 + b / 16) / 16 = a := by rw [pk_div (Nat.div_lt_of_lt_mul h2)]; exact pk_dm a 4
    have x2 : (a % 4 * 16 + b / 16) % 16 * 16 + (b % 16 * 4) / 4 = b := by rw [pk_mod (Nat.div_lt_of_lt_mul h2), Nat.mul_div_cancel _ (by decide)]; exact pk_dm b 16
    refine ⟨b % 16 * 4 % 4, ?_⟩
    show (out ++ [a / 4 * 4 + (a % 4 * 16 + b / 16) / 16] ++ [(a % 4 * 16 + b / 16) % 16 * 16 + (b % 16 * 4) / 4], 3, b % 16 * 4 % 4) = _
    rw [x1, x2]; simp [qOf]
  | a :: b :: c :: r, out, hs => by
    have h1 := hs a (by simp); have h2 := hs b (by simp); have h3 := hs c (by simp)
    obtain ⟨lc, ih⟩ := foldA r (out ++ [a, b, c]) (fun x hx => hs x (by simp [hx]))
    have em : (a :: b :: c :: r).length % 3 = r.length % 3 := r3 _
    rw [em]
    refine ⟨lc, ?_⟩
    have e : (sixP (a :: b :: c :: r)) = (a / 4) :: (a % 4 * 16 + b / 16) :: (b % 16 * 4 + c / 64) :: (c % 64) :: sixP r := rfl
    rw [e, List.foldl_cons, List.foldl_cons, List.foldl_cons, List.foldl_cons]
    have s1 : stepA (out, 0, 0) (a / 4) = (out, 1, a / 4) := rfl
    have s2 : ∀ v, stepA (out, 1, a / 4) v = (out ++ [a / 4 * 4 + v / 16], 2, v % 16) := fun v => rfl
    have s3 : ∀ o u v, stepA (o, 2, u) v = (o ++ [u * 16 + v / 4], 3, v % 4) := fun o u v => rfl
    have s4 : ∀ o u v, stepA (o, 3, u) v = (o ++ [u * 64 + v], 0, 0) := fun o u v => rfl
    rw [s1, s2, s3, s4]
    have x1 : a / 4 * 4 + (a % 4 * 16 + b / 16) / 16 = a := by rw [pk_div (Nat.div_lt_of_lt_mul h2)]; exact pk_dm a 4
    have x2 : (a % 4 * 16 + b / 16) % 16 * 16 + (b % 16 * 4 + c / 64) / 4 = b := by rw [pk_mod (Nat.div_lt_of_lt_mul h2), pk_div (Nat.div_lt_of_lt_mul h3)]; exact pk_dm b 16
    have x3 : (b % 16 * 4 + c / 64) % 4 * 64 + c % 64 = c := by rw [pk_mod (Nat.div_lt_of_lt_mul h3)]; exact pk_dm c 64
    rw [x1, x2, x3]
    have y : out ++ [a] ++ [b] ++ [c] = out ++ [a, b, c] := by simp
    rw [y, ih]
    simp
theorem stepA_ok (out : List Nat) (q lc v : Nat) (h : q < 4) (h2 : lc < 64) (hv : v < 64) : (stepA (out, q, lc) v).2.1 < 4 ∧ (stepA (out, q, lc) v).2.2 < 64 ∧ (stepA (out, q, lc) v).1.length ≤ out.length + 1 := by
  unfold stepA
  simp only
  repeat' split
  all_goals simp
  all_goals (first | with_reducible exact dv15 _ | with_reducible exact dv16 _ | exact cs1 (by assumption))
theorem foldA_ok : ∀ (l : List Nat) (out : List Nat) (q lc : Nat), q < 4 → lc < 64 → (∀ x ∈ l, x < 64) → (l.foldl stepA (out, q, lc)).2.1 < 4 ∧ (l.foldl stepA (out, q, lc)).2.2 < 64 ∧ (l.foldl stepA (out, q, lc)).1.length ≤ out.length + l.length
  | [], out, q, lc, h, h', _ => by simp; exact ⟨h, h'⟩
  | v :: l, out, q, lc, h, h', hl => by
    refine opq fun Gq hGq => ?_
    obtain ⟨a, b, c⟩ := stepA_ok out q lc v h h' (hl v (by simp))
    obtain ⟨i1, i2, i3⟩ := foldA_ok l (stepA (out, q, lc) v).1 (stepA (out, q, lc) v).2.1 (stepA (out, q, lc) v).2.2 a b fun x hx => hl x (by simp [hx])
    refine hGq ?_
    rw [List.foldl_cons]
    refine ⟨i1, i2, ?_⟩
    have i3 : (List.foldl stepA (stepA (out, q, lc) v) l).1.length ≤ (stepA (out, q, lc) v).1.length + l.length := i3
    simp only [List.length_cons]
    with_reducible exact fa1 (by assumption) (by assumption)
theorem sixP_len : ∀ (l : List Nat), (sixP l).length ≤ 2 * l.length + 4
  | a :: b :: c :: r => by have := sixP_len r; simp [sixP]; with_reducible exact en1 (by assumption)
  | [] => by simp [sixP]
  | [_] => by simp [sixP]
  | [_, _] => by simp [sixP]
theorem tv_small {l : List Nat} (h : ∀ x ∈ l, x < 64) : Small (l.map tv) := fun x hx => by
  obtain ⟨y, hy, rfl⟩ := List.mem_map.mp hx
  exact tv_lt (h y hy)
theorem tv_ne61_0 : ∀ v < 64, tv v ≠ 61 := by decide +kernel
theorem tv_ne61 {v : Nat} (h : v < 64) : tv v ≠ 61 := tv_ne61_0 v h
theorem s_a2b (P : Prog g) {l : List Nat} (hs : Small l) (hn : l.length ≤ 20000) (h : Q (.bytes (by8 l)) H) : Calls g (n + 2) (.ref 140) [.bytes (by8 (encP l))] [(Str.ofString "strict_mode", .bool false)] H Q := by
  have gq0 := Prog.g_ascii_buffer P
  have gq1 := Prog.g_b64_value P
  have gq2 := Prog.g_bytes P
  have gq3 := Prog.g_truth P
  refine calls_fnX (P.K 140 _ rfl) rfl rfl rfl (by kernel_rfl) rfl rfl rfl ⟨_, _, _, rfl, P.K _ _ rfl, rfl, rfl⟩ (binds1k (x := Str.ofString "data") (y := Str.ofString "strict_mode") P.K fun _ _ _ => by kernel_rfl) ?_
  walk_at "ev"
  refine ⟨⟨_, _, P.K 111 _ rfl, rfl⟩, s_ascii_buffer P ?_⟩
  walk_at "ev"
  refine ⟨⟨_, _, P.K 125 _ rfl, rfl⟩, s_truth P ?_⟩
  walk_at "ev"
  refine ⟨by decide, fun a ha => ?_⟩
  walk_at "ev"
  have hx6 := sixP_small l hs
  have hlen := sixP_len l
  rw [encP_six]
  obtain ⟨lc0, hF⟩ := foldA l [] hs
  rw [List.nil_append] at hF
  have hsm : Small ((sixP l).map tv ++ List.replicate ((3 - l.length % 3) % 3) 61) := fun x hx => by
    rcases List.mem_append.mp hx with q | q
    · exact tv_small hx6 x q
    · rw [(List.mem_replicate.mp q).2]; decide
  refine EvS_For (σ := (List Nat × Nat × Nat) × Nat) (fun st => [(Str.ofString "out", .ref a), (Str.ofString "strict_mode", .bool false), (Str.ofString "quad_pos", .int st.1.2.1), (Str.ofString "leftchar", .int st.1.2.2), (Str.ofString "pads", .int (st.2 - (sixP l).length : Nat)), (Str.ofString "i", .int st.2)]) (fun st => H.set a (.list (ni st.1.1)))
    (fun i st => st.1 = ((sixP l).take i).foldl stepA ([], 0, 0) ∧ st.2 = i) rfl ?_
  walk_at "ev"
  refine ⟨.bytes (by8 ((sixP l).map tv ++ List.replicate ((3 - l.length % 3) % 3) 61)), rfl, trivial, ⟨(([], 0, 0), 0), ⟨rfl, rfl⟩, (by dsimp only; rw [Nat.zero_sub]; walk_at "vle"), HF.Le.refl _⟩, fun i st hS => ⟨trivial, fun x hx => ?_, fun hx => ?_⟩⟩
  · rw [by8_items hsm] at hx
    obtain ⟨b, hb, rfl⟩ := ni_get hx
    rcases Nat.lt_or_ge i (sixP l).length with hil | hil
    rotate_left
    · -- the padding
      rw [List.getElem?_append_right (by rw [List.length_map]; exact hil), List.length_map, List.getElem?_replicate] at hb
      split at hb
      rotate_left
      · (first | exact nsF hb | exact snF hb | obtain rfl := Option.some.inj hb | cases hb)
      rename_i hpad
      refine opq fun Gq hGq => ?_
      (first | exact nsF hb | exact snF hb | obtain rfl := Option.some.inj hb | cases hb)
      obtain ⟨⟨out, q, lc⟩, j⟩ := st
      obtain ⟨hS, hj⟩ := hS
      dsimp only at hS hj
      subst hj
      rw [take_all hil, hF] at hS
      cases hS
      refine hGq ?_
      have hm : l.length % 3 = 1 ∨ l.length % 3 = 2 := by with_reducible exact ab1' (by assumption)
      have hq : qOf (l.length % 3) = l.length % 3 + 1 := by unfold qOf; rw [if_neg (by (intro _; with_reducible exact ab2 (by assumption) (by assumption)))]
      dsimp only
      rw [hq]
      generalize hTE : TurnEnd _ _ _ _ = TE; revert TE; refine bar ?_; intro TE hTE
      walk_at "ev"
      refine EvS_If ?_
      walk_at "ev"
      refine ⟨fun _ => ?_, fun q => (nomatch q)⟩
      walk_at "ev"
      refine EvS_If ?_
      walk_at "ev"
      refine ⟨fun _ => ?_, fun q => absurd (of_decide_eq_false q) (by with_reducible exact nn (ab3 (by assumption)))⟩
      walk_at "ev"
      refine ⟨fun _ => ?_, fun q => absurd (of_decide_eq_false q) (by with_reducible exact nn (ab4 (by assumption) (by assumption)))⟩
      walk_at "ev"
      refine ⟨fun _ => ?_, fun q => (nomatch q)⟩
      walk_at "ev"
      refine ⟨((l, l.length % 3 + 1, lc0), j + 1), ⟨?_, rfl⟩, ?_, HF.Le.refl _⟩
      · rw [take_all (Nat.le_succ_of_le hil), hF, hq]
      · dsimp only
        rw [show ((j + 1 - (sixP l).length : Nat) : Int) = ((j - (sixP l).length : Nat) : Int) + 1 by with_reducible exact ns4 (by assumption)]
        walk_at "vle"
    rw [List.getElem?_append_left (by rw [List.length_map]; exact hil)] at hb
    rw [List.getElem?_map] at hb
    refine opq fun Gq hGq => ?_
    obtain ⟨v, hv, rfl⟩ := Option.map_eq_some_iff.mp hb
    have hv64 : v < 64 := hx6 v (List.mem_of_getElem? hv)
    have hne := tv_ne61 hv64
    obtain ⟨⟨out, q, lc⟩, j⟩ := st
    obtain ⟨hS, hj⟩ := hS
    dsimp only at hS hj
    obtain ⟨k1, k2, k3⟩ := foldA_ok ((sixP l).take i) [] 0 0 (by decide) (by decide) fun x hx => hx6 x (List.mem_of_mem_take hx)
    refine hGq ?_
    rw [← hS] at k1 k2 k3
    simp only [List.length_nil, Nat.zero_add, List.length_take] at k1 k2 k3
    have hS2 : ((sixP l).take (i + 1)).foldl stepA ([], 0, 0) = stepA (out, q, lc) v := by
      rw [take_succ_of hv, List.foldl_append, ← hS]; rfl
    have hlo : out.length < 100000 := by with_reducible exact mi14 (by assumption) (by assumption) (by assumption) (by assumption)
    dsimp only
    generalize hTE : TurnEnd _ _ _ _ = TE; revert TE; refine bar ?_; intro TE hTE
    have hpz : ((j - (sixP l).length : Nat) : Int) = 0 := by with_reducible exact ns6 (by assumption) (by assumption)
    rw [hpz]
    walk_at "ev"
    refine EvS_If ?_
    walk_at "ev"
    refine ⟨fun q => absurd (eq_of_beq q) (by (intro _; with_reducible exact tW (by assumption) (by assumption))), fun _ => ?_⟩
    walk_at "ev"
    refine ⟨⟨_, _, P.K 132 _ rfl, rfl⟩, s_b64_value P hv64 ?_⟩
    walk_at "ev"
    refine EvS_If ?_
    walk_at "ev"
    refine ⟨fun q => absurd (of_decide_eq_true q) (fun h => tR hv64 h), fun _ => ?_⟩
    walk_at "ev"
    refine EvS_If ?_
    walk_at "ev"
    refine ⟨fun q => (nomatch q), fun _ => ⟨fun q => (nomatch q), fun _ => ?_⟩⟩
    walk_at "ev"
    refine EvS_cut (σ := Unit) (fun _ => [(Str.ofString "out", .ref a), (Str.ofString "strict_mode", .bool false), (Str.ofString "quad_pos", .int (stepA (out, q, lc) v).2.1), (Str.ofString "leftchar", .int (stepA (out, q, lc) v).2.2), (Str.ofString "pads", .int 0), (Str.ofString "i", .int j)]) (fun _ => H.set a (.list (ni (stepA (out, q, lc) v).1))) (fun _ => True) ?_ fun _ _ => ?_
    · refine EvS_If ?_
      walk_at "ev"
      refine ⟨fun h0 => ?_, fun h0 => ?_⟩
      · have h0 : (q : Int) = 0 := eq_of_beq h0
        have e : stepA (out, q, lc) v = (out, 1, v) := by unfold stepA; exact if_pos (by simp only; with_reducible exact tT (by assumption))
        rw [e]
        walk_at "ev"
        exact ⟨(), trivial, (by walk_at "vle"), HF.Le.refl _⟩
      have h0 : (q : Int) ≠ 0 := by simpa using h0
      walk_at "ev"
      refine EvS_If ?_
      walk_at "ev"
      refine ⟨fun h1 => ?_, fun h1 => ?_⟩
      · have h1 : (q : Int) = 1 := eq_of_beq h1
        have hq : q = 1 := by with_reducible exact tU (by assumption)
        obtain rfl := Eq.symm hq
        have e : stepA (out, 1, lc) v = (out ++ [lc * 2 ^ 2 + v / 2 ^ 4], 2, v % 2 ^ 4) := rfl
        rw [e]
        walk_at "ev"
        refine ⟨a, _, rfl, HF.set_self .., ?_⟩
        walk_at "ev"
        refine bin_shlN 2 rfl (by decide) (by with_reducible exact Nat.lt_of_lt_of_le (by assumption) (by decide)) ?_
        walk_at "ev"
        refine bin_shrN 4 rfl ?_
        refine bin_orN 2 (by with_reducible exact dv1 (by assumption)) ?_
        walk_at "ev"
        refine calls_append (HF.set_self ..) (by rw [ni_length]; with_reducible assumption) ?_
        rw [HF.set_set]
        walk_at "ev"
        refine bin_mask 4 rfl ?_
        walk_at "ev"
        refine ⟨(), trivial, (by walk_at "vle"), ?_⟩
        rw [ni_append]
        exact HF.Le.refl _
      have h1 : (q : Int) ≠ 1 := by simpa using h1
      walk_at "ev"
      refine EvS_If ?_
      walk_at "ev"
      refine ⟨fun h2 => ?_, fun h2 => ?_⟩
      · have h2 : (q : Int) = 2 := eq_of_beq h2
        have hq : q = 2 := by with_reducible exact tV (by assumption)
        obtain rfl := Eq.symm hq
        have e : stepA (out, 2, lc) v = (out ++ [lc * 2 ^ 4 + v / 2 ^ 2], 3, v % 2 ^ 2) := rfl
        rw [e]
        walk_at "ev"
        refine ⟨a, _, rfl, HF.set_self .., ?_⟩
        walk_at "ev"
        refine bin_shlN 4 rfl (by decide) (by with_reducible exact Nat.lt_of_lt_of_le (by assumption) (by decide)) ?_
        walk_at "ev"
        refine bin_shrN 2 rfl ?_
        refine bin_orN 4 (by with_reducible exact dv2 (by assumption)) ?_
        walk_at "ev"
        refine calls_append (HF.set_self ..) (by rw [ni_length]; with_reducible assumption) ?_
        rw [HF.set_set]
        walk_at "ev"
        refine bin_mask 2 rfl ?_
        walk_at "ev"
        refine ⟨(), trivial, (by walk_at "vle"), ?_⟩
        rw [ni_append]
        exact HF.Le.refl _
      · have h2 : (q : Int) ≠ 2 := by simpa using h2
        have hq : q = 3 := by with_reducible exact q3 (by assumption) (by assumption) (by assumption) (by assumption)
        obtain rfl := Eq.symm hq
        have e : stepA (out, 3, lc) v = (out ++ [lc * 2 ^ 6 + v], 0, 0) := rfl
        rw [e]
        walk_at "ev"
        refine ⟨a, _, rfl, HF.set_self .., ?_⟩
        walk_at "ev"
        refine bin_shlN 6 rfl (by decide) (by with_reducible exact Nat.lt_of_lt_of_le (by assumption) (by decide)) ?_
        walk_at "ev"
        refine bin_orN 6 (by with_reducible assumption) ?_
        walk_at "ev"
        refine calls_append (HF.set_self ..) (by rw [ni_length]; with_reducible assumption) ?_
        rw [HF.set_set]
        walk_at "ev"
        refine ⟨(), trivial, (by walk_at "vle"), ?_⟩
        rw [ni_append]
        exact HF.Le.refl _
    · walk_at "ev"
      exact ⟨(stepA (out, q, lc) v, j + 1), ⟨hS2.symm, by simp only; with_reducible exact congrArg Nat.succ (by assumption)⟩, (by dsimp only; rw [show ((j + 1 - (sixP l).length : Nat) : Int) = 0 by with_reducible exact ns7 (by assumption) (by assumption)]; walk_at "vle"), HF.Le.refl _⟩
  · rw [by8_items hsm] at hx
    have hi := ni_get_none hx
    rw [List.length_append, List.length_map, List.length_replicate] at hi
    refine opq fun Gq hGq => ?_
    obtain ⟨st, j⟩ := st
    obtain ⟨hS, hj⟩ := hS
    rw [take_all (Nat.le_trans (Nat.le_add_right _ _) (by assumption))] at hS
    dsimp only at hS hj
    rw [hF] at hS
    obtain rfl := Eq.symm hS
    obtain rfl := Eq.symm hj
    refine hGq ?_
    dsimp only
    walk_at "ev"
    refine EvS_If ?_
    walk_at "ev"
    refine ⟨fun q => ?_, fun _ => ?_⟩
    · have q := eq_of_beq q
      exfalso
      unfold qOf at q
      split at q <;> first | exact absurd q (by decide) | exact ab6 (by assumption) q
    walk_at "ev"
    refine EvS_If ?_
    walk_at "ev"
    refine ⟨fun q => ?_, fun q => ?_⟩
    · walk_at "ev"
      refine ⟨fun q2 => ?_, fun _ => ?_⟩
      · have q2 := of_decide_eq_true q2
        exfalso
        unfold qOf at q q2
        split at q2
        · rename_i z; rw [if_pos z] at q; (first | exact nsF q | exact snF q | obtain rfl := Option.some.inj q | cases q)
        · with_reducible exact ab5 (by assumption) (by assumption) (by assumption)
      · refine ⟨fun q => (nomatch q), fun _ => ?_⟩
        walk_at "ev"
        refine ⟨trivial, calls_bytesN (HF.set_self ..) hs (by with_reducible exact Nat.le_trans (by assumption) (by decide)) ?_⟩
        walk_at "ev"
        exact ⟨H, HF.Le.new ha (HF.Le.refl _), h⟩
    · refine ⟨fun q => (nomatch q), fun _ => ?_⟩
      walk_at "ev"
      refine ⟨trivial, calls_bytesN (HF.set_self ..) hs (by with_reducible exact Nat.le_trans (by assumption) (by decide)) ?_⟩
      walk_at "ev"
      exact ⟨H, HF.Le.new ha (HF.Le.refl _), h⟩
theorem s_b64decode (P : Prog g) {l : List Nat} (hs : Small l) (hn : l.length ≤ 20000) (h : Q (.bytes (by8 l)) H) : Calls g (n + 3) (.ref 164) [.bytes (by8 (encP l))] [] H Q := by
  have gq0 := Prog.g_a2b_base64 P
  have gq1 := Prog.g_bytes_from_decode_data P
  refine calls_fnX (P.K 164 _ rfl) rfl rfl rfl (by kernel_rfl) rfl rfl rfl ⟨_, _, _, rfl, P.K _ _ rfl, rfl, rfl⟩ (binds1nb (x := Str.ofString "s") (y := Str.ofString "altchars") (z := Str.ofString "validate") (b := false) P.K fun _ _ => by kernel_rfl) ?_
  walk_at "ev"
  refine ⟨⟨_, _, P.K 91 _ rfl, rfl⟩, s_from_decode P ?_⟩
  walk_at "ev"
  refine EvS_If ?_
  walk_at "ev"
  refine ⟨fun q => (nomatch q), fun _ => ?_⟩
  walk_at "ev"
  refine ⟨⟨_, _, P.K 140 _ rfl, rfl⟩, s_a2b P hs hn ?_⟩
  walk_at "ev"
  exact ⟨_, HF.Le.refl _, h⟩
end
end
section
/-! numbers in octets -/
noncomputable def octGo (acc : List Nat) (n : Nat) : List Nat := if h : 63 < n then octGo ((n / 64 % 64 + 64) :: acc) (n / 64) else acc
termination_by n
decreasing_by with_reducible exact dv4 (by assumption)
noncomputable def octs (n : Nat) : List Nat := octGo [n % 64] n
noncomputable def hb (m : Nat) : List Nat := if h : 63 < m then hb (m / 64) ++ [m % 64 + 64] else [m % 64 + 64]
termination_by m
decreasing_by with_reducible exact dv4 (by assumption)
theorem octGo_eq : ∀ (acc : List Nat) (n : Nat), octGo acc n = (if 63 < n then hb (n / 64) else []) ++ acc := by
  intro acc n
  fun_induction octGo acc n with
  | case1 acc n h ih =>
    rw [ih, if_pos h]
    conv => rhs; rw [hb]
    by_cases h2 : 63 < n / 64
    · rw [if_pos h2, dif_pos h2]; simp
    · rw [if_neg h2, dif_neg h2]; simp
  | case2 acc n h => rw [if_neg h]; rfl
theorem octs_eq (n : Nat) : octs n = (if 63 < n then hb (n / 64) else []) ++ [n % 64] := octGo_eq _ _
theorem hb_oct : ∀ m, ∀ x ∈ hb m, x < 128 := by
  intro m
  fun_induction hb m with
  | case1 m h ih => intro x hx; rw [List.mem_append] at hx; rcases hx with hx | hx; exact ih x hx; simp at hx; with_reducible exact dv13 (by assumption)
  | case2 m h => intro x hx; simp at hx; with_reducible exact dv13 (by assumption)
theorem octs_oct (n : Nat) : ∀ x ∈ octs n, x < 128 := by
  intro x hx
  rw [octs_eq, List.mem_append] at hx
  rcases hx with hx | hx
  · split at hx
    · exact hb_oct _ x hx
    · (first | exact nsF hx | exact snF hx | obtain rfl := Option.some.inj hx | cases hx)
  · simp at hx; with_reducible exact dv14 (by assumption)
theorem hb_len {m : Nat} (h : m < 4096) : (hb m).length ≤ 2 := by
  rw [hb]
  split
  · rw [hb, dif_neg (by (intro _; with_reducible exact dv7 (by assumption) (by assumption)))]; simp
  · simp
theorem octs_len {n : Nat} (h : n < 262144) : (octs n).length ≤ 3 := by
  rw [octs_eq, List.length_append]
  split
  · have := hb_len (m := n / 64) (by with_reducible exact dv6 (by assumption)); simp; with_reducible assumption
  · simp
noncomputable def pvS (val b : Nat) : List Nat → Option (Nat × List Nat)
  | [] => if 64 ≤ b then none else some (val, [])
  | c :: r => if 64 ≤ b then (if val < 2 ^ 40 then pvS (val * 64 + c % 64) c r else none) else some (val, c :: r)
theorem pvS_hb : ∀ (m : Nat) (b : Nat) (rest : List Nat), 64 ≤ b → m < 2 ^ 40 → ∃ b', 64 ≤ b' ∧ pvS 0 b (hb m ++ rest) = pvS m b' rest := by
  intro m
  fun_induction hb m with
  | case1 m h ih =>
    intro b rest hb0 hm
    obtain ⟨b', h1, h2⟩ := ih b ([m % 64 + 64] ++ rest) hb0 (by with_reducible exact dv5 (by assumption))
    refine ⟨m % 64 + 64, by with_reducible exact Nat.le_add_left _ _, ?_⟩
    rw [List.append_assoc, h2]
    show pvS (m / 64) b' ((m % 64 + 64) :: rest) = _
    rw [pvS, if_pos h1, if_pos (by with_reducible exact dv5 (by assumption))]
    congr 1
    with_reducible exact dv8 _
  | case2 m h =>
    intro b rest hb0 hm
    refine ⟨m % 64 + 64, by with_reducible exact Nat.le_add_left _ _, ?_⟩
    show pvS 0 b ((m % 64 + 64) :: rest) = _
    rw [pvS, if_pos hb0, if_pos (by decide)]
    congr 1
    with_reducible exact dv11 (by assumption)
theorem pvS_octs (n : Nat) (rest : List Nat) (h : n < 2 ^ 40) : pvS 0 64 (octs n ++ rest) = some (n, rest) := by
  rw [octs_eq]
  split
  · obtain ⟨b', h1, h2⟩ := pvS_hb (n / 64) 64 ([n % 64] ++ rest) (by decide) (by with_reducible exact dv5 (by assumption))
    rw [List.append_assoc, h2]
    show pvS (n / 64) b' ((n % 64) :: rest) = _
    rw [pvS, if_pos h1, if_pos (by with_reducible exact dv5 (by assumption))]
    have e : n / 64 * 64 + n % 64 % 64 = n := by with_reducible exact dv9 _
    rw [e]
    cases rest <;> (rw [pvS, if_neg (by (intro _; with_reducible exact dv12 (by assumption)))])
  · show pvS 0 64 ((n % 64) :: rest) = _
    rw [pvS, if_pos (by decide), if_pos (by decide)]
    have e : 0 * 64 + n % 64 % 64 = n := by with_reducible exact dv10 (by assumption)
    rw [e]
    cases rest <;> (rw [pvS, if_neg (by (intro _; with_reducible exact dv12 (by assumption)))])
theorem RaiseC.mono {g : G} {n : Nat} {f : PV} {vs : List PV} {H : HF} {X Y : HF → Prop} {T : String} (h : RaiseC g n f vs H X T) (k : ∀ H', X H' → Y H') : RaiseC g n f vs H Y T :=
  fun A l Fs R s E Q fv vvs r hfr I d1 d2 hE => h A l Fs R s E Q fv vvs r hfr I d1 d2 fun v s' hF => by
    refine opq fun Gq hGq => ?_
    obtain ⟨e, a0, H', D, h1, q1, q2, q3⟩ := hF
    refine hGq ?_
    exact hE _ _ ⟨e, a0, H', D, h1, q1, k _ q2, q3⟩
theorem and64 : ∀ b < 128, (Builtin.bitAnd ((b : Nat) : Int) 64 != 0) = decide (64 ≤ b) := by decide +kernel
theorem by8_get {l : List Nat} (h : Small l) {i : Nat} (hi : i < l.length) : (by8 l)[i]? = some (l[i].toUInt8) ∧ (l[i].toUInt8).toNat = l[i] := by
  refine ⟨by simp [by8, hi], ?_⟩
  have := h l[i] (List.getElem_mem hi)
  rw [UInt8.toNat_ofNat', Nat.mod_eq_of_lt this]
theorem drop_cons_get {l : List Nat} {i : Nat} (hi : i < l.length) : l.drop i = l[i] :: l.drop (i + 1) := List.drop_eq_getElem_cons hi
theorem drop_inj {l : List Nat} {i j : Nat} (hi : i ≤ l.length) (hj : j ≤ l.length) (h : l.drop i = l.drop j) : i = j := by
  have := congrArg List.length h
  rw [List.length_drop, List.length_drop] at this
  with_reducible exact ns18 (by assumption) (by assumption) (by assumption)
section
variable {g : G} {n : Nat} {H : HF} {Q : PV → HF → Prop}
theorem s_octets (P : Prog g) {x : Nat} (hx : x < 262144) (h : ∀ a, H a = none → Q (.ref a) (H.set a (.list (ni (octs x))))) : Calls g (n + 1) (.ref 197) [.int x] [] H Q := by
  refine calls_fnX (P.K 197 _ rfl) rfl rfl rfl (by kernel_rfl) rfl rfl rfl ⟨_, _, _, rfl, P.K _ _ rfl, rfl, rfl⟩ (binds1 (x := Str.ofString "number") P.K fun _ _ => by kernel_rfl) ?_
  walk_at "ev"
  refine bin_modN (b := 64) rfl (by decide) ?_
  walk_at "ev"
  refine ⟨by simp, fun a ha => ?_⟩
  walk_at "ev"
  refine EvS_While (σ := List Nat × Nat) (fun st => [(Str.ofString "octets", .ref a), (Str.ofString "number", .int st.2)]) (fun st => H.set a (.list (ni st.1)))
    (fun st => octGo st.1 st.2 = octs x ∧ (st.1.length = 1 ∧ st.2 < 262144 ∨ st.1.length + st.2 ≤ 5000)) (fun st => st.2) ⟨([x % 64], x), ⟨rfl, .inl ⟨rfl, hx⟩⟩, (by walk_at "vle"), HF.Le.refl _⟩ ?_
  rintro ⟨acc, k⟩ ⟨h1, h2⟩
  dsimp only at h1 h2 ⊢
  generalize hTE : TurnEnd _ _ _ _ = TE; revert TE; refine bar ?_; intro TE hTE
  rw [octGo] at h1
  walk_at "ev"
  refine ⟨fun ht => ?_, fun ht => ?_⟩
  · have ht := of_decide_eq_true ht
    rw [dif_pos (by exact Int.ofNat_lt.mp (by assumption))] at h1
    walk_at "ev"
    refine bin_divN (b := 64) rfl (by decide) (by decide) ?_
    walk_at "ev"
    refine ⟨a, _, rfl, HF.set_self .., ?_⟩
    walk_at "ev"
    refine bin_modN (b := 64) rfl (by decide) ?_
    walk_at "ev1"
    refine bin_addN (b := 64) rfl ?_
    walk_at "ev"
    refine calls_insert0 (HF.set_self ..) (by rw [ni_length]; with_reducible exact oc2 (by assumption)) ?_
    rw [HF.set_set]
    walk_at "ev"
    exact ⟨((k / 64 % 64 + 64) :: acc, k / 64), ⟨⟨h1, .inr (by simp only [List.length_cons]; with_reducible exact oc1 (by assumption) (by assumption))⟩, by simp only; with_reducible exact dv3 (by assumption)⟩, (by walk_at "vle"), HF.Le.refl _⟩
  · have ht := of_decide_eq_false ht
    rw [dif_neg (by (intro _; with_reducible exact tQ (by assumption) (by assumption)))] at h1
    obtain rfl := Eq.symm h1
    walk_at "ev"
    exact ⟨_, HF.Le.refl _, h a ha⟩
theorem s_parse (P : Prog g) {a : Addr} {l : List Nat} {i j v : Nat} (hH : H a = some (.biter (by8 l) i)) (ho : ∀ x ∈ l, x < 128) (hi : i ≤ l.length) (hj : j ≤ l.length) (hp : pvS 0 64 (l.drop i) = some (v, l.drop j))
    (h : Q (.int v) (H.set a (.biter (by8 l) j))) : Calls g (n + 1) (.ref 171) [.ref a] [] H Q := by
  have gq0 := Prog.g_next P
  refine calls_fnX (P.K 171 _ rfl) rfl rfl rfl (by kernel_rfl) rfl rfl rfl ⟨_, _, _, rfl, P.K _ _ rfl, rfl, rfl⟩ (binds1 (x := Str.ofString "iterator") P.K fun _ _ => by kernel_rfl) ?_
  have hs : Small l := fun x hx => by have := ho x hx; with_reducible exact Nat.lt_of_lt_of_le (by assumption) (by decide)
  have hi2 : i < l.length := by
    rcases Nat.lt_or_ge i l.length with q | q
    · exact q
    · rw [List.drop_of_length_le q, pvS, if_pos (by decide)] at hp; (first | exact nsF hp | exact snF hp | obtain rfl := Option.some.inj hp | cases hp)
  obtain ⟨g1, g2⟩ := by8_get hs hi2
  rw [drop_cons_get hi2, pvS, if_pos (by decide), if_pos (by decide), Nat.zero_mul, Nat.zero_add] at hp
  have hb := ho l[i] (List.getElem_mem hi2)
  generalize hbe : l[i] = b at *
  walk_at "ev"
  refine ⟨trivial, calls_next_bytes hH g1 ?_⟩
  rw [g2]
  walk_at "ev"
  refine bin_mask 6 rfl ?_
  walk_at "ev"
  refine EvS_While (σ := Nat × Nat × Nat) (fun st => [(Str.ofString "val", .int st.1), (Str.ofString "b", .int st.2.1), (Str.ofString "iterator", .ref a)]) (fun st => H.set a (.biter (by8 l) st.2.2))
    (fun st => pvS st.1 st.2.1 (l.drop st.2.2) = some (v, l.drop j) ∧ st.2.2 ≤ l.length ∧ st.2.1 < 128) (fun st => l.length - st.2.2) ⟨(b % 64, b, i + 1), ⟨hp, hi2, hb⟩, (by walk_at "vle"), HF.Le.refl _⟩ ?_
  rintro ⟨val, b2, i2⟩ ⟨h1, h2, h3⟩
  dsimp only at h1 h2 h3 ⊢
  generalize hTE : TurnEnd _ _ _ _ = TE; revert TE; refine bar ?_; intro TE hTE
  walk_at "ev"
  refine bin_and ?_
  walk_at "ev"
  rw [and64 b2 h3]
  refine ⟨fun ht => ?_, fun ht => ?_⟩
  · have ht := of_decide_eq_true ht
    have hi3 : i2 < l.length := by
      rcases Nat.lt_or_ge i2 l.length with q | q
      · exact q
      · rw [List.drop_of_length_le q, pvS, if_pos ht] at h1; (first | exact nsF h1 | exact snF h1 | obtain rfl := Option.some.inj h1 | cases h1)
    obtain ⟨k1, k2⟩ := by8_get hs hi3
    rw [drop_cons_get hi3, pvS, if_pos ht] at h1
    have hc := ho l[i2] (List.getElem_mem hi3)
    generalize hce : l[i2] = c at *
    split at h1
    · rename_i hval
      walk_at "ev"
      refine ibin_shlN 6 rfl (by decide) (by with_reducible exact Nat.lt_of_lt_of_le (by assumption) (by decide)) ?_
      walk_at "ev"
      refine ⟨trivial, calls_next_bytes (HF.set_self ..) k1 ?_⟩
      rw [k2, HF.set_set]
      walk_at "ev"
      refine bin_mask 6 rfl ?_
      refine ibin_orN 6 (by with_reducible exact Nat.mod_lt _ (by decide)) ?_
      walk_at "ev"
      exact ⟨(val * 64 + c % 64, c, i2 + 1), ⟨⟨h1, hi3, hc⟩, by simp only; with_reducible exact ns3 (by assumption)⟩, (by walk_at "vle"), HF.Le.refl _⟩
    · (first | exact nsF h1 | exact snF h1 | obtain rfl := Option.some.inj h1 | cases h1)
  · have ht := of_decide_eq_false ht
    have e : pvS val b2 (l.drop i2) = some (val, l.drop i2) := by
      cases l.drop i2 <;> (rw [pvS, if_neg (by with_reducible assumption)])
    rw [e] at h1
    simp only [Option.some.injEq, Prod.mk.injEq] at h1
    have := drop_inj h2 hj h1.2
    obtain rfl := Eq.symm this
    rw [h1.1]
    walk_at "ev"
    exact ⟨_, HF.Le.refl _, h⟩
theorem r_parse (P : Prog g) {a : Addr} {b : List UInt8} {i : Nat} (hH : H a = some (.biter b i)) (hc : b[i]? = none) : RaiseC g (n + 1) (.ref 171) [.ref a] H (fun H' => H' = H.del a) "StopIteration" := by
  have gq0 := Prog.g_next P
  refine raise_fn (pb := [(Str.ofString "iterator", .ref a)]) (P.K 171 _ rfl) rfl rfl (by kernel_rfl) rfl rfl rfl ⟨_, _, _, _, rfl, P.K _ _ rfl, rfl, rfl⟩ (binds1 (x := Str.ofString "iterator") P.K fun _ _ => by kernel_rfl) (fun _ => by kernel_rfl) (by kernel_rfl) hH hc ?_
  walk_at "ev"
  exact ⟨trivial, rfl, rfl, rfl⟩
theorem fl_oct (R : List Nat) : ∀ x ∈ R.flatMap octs, x < 128 := fun x hx => by
  obtain ⟨p, _, h⟩ := List.mem_flatMap.mp hx
  exact octs_oct p x h
theorem fl_len : ∀ (R : List Nat), (∀ x ∈ R, x < 262144) → (R.flatMap octs).length ≤ 3 * R.length
  | [], _ => by simp
  | x :: R, h => by
    have := fl_len R fun y hy => h y (by simp [hy])
    have := octs_len (h x (by simp))
    rw [List.flatMap_cons, List.length_append, List.length_cons]; with_reducible exact fl1 (by assumption) (by assumption)
theorem s_told (P : Prog g) {R : List Nat} (hl : R.length ≤ 100) (hv : ∀ x ∈ R, x < 262144) (h : ∀ a, H a = none → Q (.ref a) (H.set a (.list (ni R)))) :
    Calls g (n + 4) (.ref 209) [.bytes (by8 (encP (R.flatMap octs)))] [] H Q := by
  have gq0 := Prog.g_b64decode P
  have gq1 := Prog.g_iter P
  have gq2 := Prog.g_parse_varint P
  refine calls_fnX (P.K 209 _ rfl) rfl rfl rfl (by kernel_rfl) rfl rfl rfl ⟨_, _, _, rfl, P.K _ _ rfl, rfl, rfl⟩ (binds1 (x := Str.ofString "text") P.K fun _ _ => by kernel_rfl) ?_
  have ho := fl_oct R
  have hln := fl_len R hv
  have hs : Small (R.flatMap octs) := fun x hx => by have := ho x hx; with_reducible exact Nat.lt_of_lt_of_le (by assumption) (by decide)
  walk_at "ev"
  refine ⟨⟨_, _, P.K 164 _ rfl, rfl⟩, s_b64decode P hs (by with_reducible exact sa5 (by assumption) (by assumption)) ?_⟩
  walk_at "ev"
  refine ⟨trivial, calls_iter_bytes fun it hit => ?_⟩
  walk_at "ev"
  refine ⟨by decide, fun a ha => ?_⟩
  walk_at "ev"
  obtain ⟨hne, ha⟩ := HF.set_none ha
  refine EvS_TryStop (σ := Nat) (fun k => [(Str.ofString "told", .ref a), (Str.ofString "walker", .ref it)]) (fun k => (H.set it (.biter (by8 (R.flatMap octs)) ((R.take k).flatMap octs).length)).set a (.list (ni (R.take k))))
    (fun k => k ≤ R.length) (fun k => R.length - k) rfl (by kernel_rfl) (by kernel_rfl) (by kernel_rfl) (Prog.g_StopIteration P) ⟨0, Nat.zero_le _, (by walk_at "vle"), HF.Le.refl _⟩ fun k hk => ?_
  rcases Nat.lt_or_ge k R.length with hlt | hge
  · left
    generalize hTE : TurnEnd _ _ _ _ = TE; revert TE; refine bar ?_; intro TE hTE
    have hp : R[k]? = some R[k] := List.getElem?_eq_getElem hlt
    have hpm := hv R[k] (List.getElem_mem hlt)
    have hsplit : R = R.take k ++ (R[k] :: R.drop (k + 1)) := by rw [← List.drop_eq_getElem_cons hlt, List.take_append_drop]
    generalize hpe : R[k] = p at *
    have hL : R.flatMap octs = (R.take k).flatMap octs ++ (octs p ++ (R.drop (k + 1)).flatMap octs) := by
      conv => lhs; rw [hsplit]
      rw [List.flatMap_append, List.flatMap_cons]
    have hd1 : (R.flatMap octs).drop ((R.take k).flatMap octs).length = octs p ++ (R.drop (k + 1)).flatMap octs := by
      conv => lhs; rw [hL]
      exact List.drop_left
    have htk : R.take (k + 1) = R.take k ++ [p] := take_succ_of hp
    have hL3 : R.flatMap octs = (R.take (k + 1)).flatMap octs ++ (R.drop (k + 1)).flatMap octs := by rw [← List.flatMap_append, List.take_append_drop]
    have hd3 : (R.flatMap octs).drop ((R.take (k + 1)).flatMap octs).length = (R.drop (k + 1)).flatMap octs := by
      conv => lhs; rw [hL3]
      exact List.drop_left
    have b1 : ((R.take k).flatMap octs).length ≤ (R.flatMap octs).length := by rw [hL, List.length_append]; with_reducible exact Nat.le_add_right _ _
    have b3 : ((R.take (k + 1)).flatMap octs).length ≤ (R.flatMap octs).length := by
      conv => rhs; rw [hL3]
      rw [List.length_append]; with_reducible exact Nat.le_add_right _ _
    walk_at "ev"
    refine ⟨a, _, rfl, HF.set_self .., ?_⟩
    walk_at "ev"
    refine ⟨⟨_, _, P.K 171 _ rfl, rfl⟩, s_parse P (by rw [HF.set_other (Ne.symm hne), HF.set_self]) ho b1 b3 (by rw [hd1, hd3]; exact pvS_octs _ _ (by with_reducible exact Nat.lt_of_lt_of_le (by assumption) (by decide))) ?_⟩
    walk_at "ev"
    refine calls_append (by rw [HF.set_other hne, HF.set_self]) (by rw [ni_length, List.length_take]; with_reducible exact mi2 (by assumption)) ?_
    walk_at "ev"
    refine ⟨k + 1, ⟨hlt, by with_reducible exact ns3 (by assumption)⟩, (by walk_at "vle"), ?_⟩
    rw [htk, ni_append]
    intro b z e
    rw [← e]
    by_cases q : b = a
    · obtain rfl := Eq.symm q; rw [HF.set_self, HF.set_self]; rfl
    · rw [HF.set_other q, HF.set_other q]
      by_cases q2 : b = it
      · obtain rfl := Eq.symm q2; rw [HF.set_self, HF.set_self]
      · rw [HF.set_other q2, HF.set_other q, HF.set_other q2, HF.set_other q2]
  · right
    have hk : k = R.length := by with_reducible exact Nat.le_antisymm (by assumption) (by assumption)
    obtain rfl := Eq.symm hk
    rw [List.take_length]
    refine raise_expr_meth (by kernel_rfl) (by kernel_rfl) ?_
    walk_at "ev"
    refine ⟨a, _, rfl, HF.set_self .., ?_⟩
    walk_at "ev"
    refine ⟨⟨_, _, P.K 171 _ rfl, rfl⟩, (r_parse P (b := by8 (R.flatMap octs)) (i := (R.flatMap octs).length) (by rw [HF.set_other (Ne.symm hne), HF.set_self]) (by rw [List.getElem?_eq_none]; rw [by8_length]; with_reducible exact Nat.le_refl _)).mono fun H' e => ⟨.ref a, (by walk_at "lk"), ?_⟩⟩
    obtain rfl := Eq.symm e
    walk_at "ev"
    refine ⟨_, ?_, h a ha⟩
    intro b z e
    by_cases q : b = a
    · obtain rfl := Eq.symm q
      rw [HF.set_self] at e
      rw [HF.del_other hne, HF.set_self]; exact e
    · rw [HF.set_other q] at e
      have q2 : b ≠ it := fun w => by obtain rfl := Eq.symm w; rw [hit] at e; (first | exact nsF e | exact snF e | obtain rfl := Option.some.inj e | cases e)
      rw [HF.del_other q2, HF.set_other q, HF.set_other q2]; exact e
end
end
section
theorem Prog.over {g g' : G} (P : Prog g) (O : Over g g') : Prog g' := ⟨by rw [O.w]; exact P.K.keeps O.base, by rw [O.glob]; exact P.gl⟩
theorem tab_ne {H : HF} {pos : Pos} {q : Str} {c' P : Addr} {oc : Obj} (h : TabAt H P pos q c' oc) : c' ≠ P := by
  refine opq fun Gq hGq => ?_
  obtain ⟨ps, h1, h2, h3, h4, ws, t, h5, h6⟩ := h
  refine hGq ?_
  rintro rfl
  rw [h1] at h4
  refine opq fun Gq hGq => ?_
  (first | exact nsF h4 | exact snF h4 | obtain rfl := Option.some.inj h4 | cases h4)
  (first | exact nsF h5 | exact snF h5 | obtain rfl := Option.some.inj h5 | cases h5)
  refine hGq ?_
  rw [← Array.getElem?_toList] at h6
  cases e : ps.toList with
  | nil => rw [e] at h6; (first | exact nsF h6 | exact snF h6 | obtain rfl := Option.some.inj h6 | cases h6)
  | cons x r =>
    rw [e] at h2 h6
    cases r with
    | nil => (first | exact nsF h6 | exact snF h6 | obtain rfl := Option.some.inj h6 | cases h6)
    | cons y r =>
      have hy : y = .str q t := by simpa using h6
      obtain rfl := Eq.symm hy
      cases x <;> (first | exact nsF h2 | exact snF h2 | obtain rfl := Option.some.inj h2 | cases h2)
theorem tab_ok {H H' : HF} {pos : Pos} {q : Str} {P c' : Addr} {oc : Obj} (h : TabAt H P pos q c' oc) (h1 : H' P = H P) (h2 : H' c' = H c') : TabOK H' P pos q := by
  refine opq fun Gq hGq => ?_
  obtain ⟨ps, a, b, c, d, e⟩ := h
  refine hGq ?_
  exact .inr ⟨c', oc, ps, h1.trans a, b, c, h2.trans d, e⟩
theorem TabOK.at {H : HF} {P : Addr} {pos : Pos} {q : Str} (h : TabOK H P pos q) : ∃ ps, H P = some (.obj (PySem.W.tabObj ps)) := by
  rcases h with ⟨ps, h, _⟩ | ⟨_, _, ps, h, _⟩
  · exact ⟨ps, h⟩
  · exact ⟨ps, h⟩
noncomputable abbrev qA : Str := Str.ofString "_law_answer" ++ Str.ofString ".<locals>." ++ Str.ofString "<lambda>"
noncomputable abbrev qS : Str := Str.ofString "_law_search" ++ Str.ofString ".<locals>." ++ Str.ofString "<lambda>"
noncomputable abbrev posA : Pos := ⟨294, 40, 294, 64⟩
noncomputable abbrev posS : Pos := ⟨316, 38, 316, 62⟩
section
variable {g : G} {n : Nat} {H : HF} {Q : PV → HF → Prop}
theorem s_answer (P : Prog g) {l : Addr} {t few : Nat} {ns : List Nat} (nd : ns.Nodup) (h1 : 1 ≤ few) (h3 : few ≤ 3) (h64 : ns.length < 64) (hv : ∀ x ∈ ns, x < 262144) (hH : H l = some (.list (ni ns))) (hT : TabOK H 199 posA qA)
    (h : ∀ R H', Nsm few t ns R → (∀ b z, b ≠ 199 → H b = some z → H' b = some z) → TabOK H' 199 posA qA → Q (.bytes (by8 (encP (R.flatMap octs)))) H') : Calls g (n + 5) (.ref 202) [.ref l, .int (t : Nat), .int (few : Nat)] [] H Q := by
  have gq0 := Prog.g_b64encode P
  have gq1 := Prog.g_bytes P
  have gq2 := Prog.g_law_octets P
  have gq3 := Prog.g_nsmallest P
  refine calls_fnX (P.K 202 _ rfl) rfl rfl rfl (by kernel_rfl) rfl rfl rfl ⟨_, _, _, rfl, P.K _ _ rfl, rfl, rfl⟩ (binds3 (x := Str.ofString "table") (y := Str.ofString "target") (z := Str.ofString "few") P.K fun _ _ _ _ => by kernel_rfl) ?_
  walk_at "ev1"
  walk_at "ev1"
  refine EvE_CallKey (Str.ofString "_law_answer") 201 199 t (by kernel_rfl) (fun _ => rfl) (fun fd v e1 e2 e3 => by cases fd; cases e1; cases e2; cases e3; rfl) (by kernel_rfl) (by kernel_rfl) (by kernel_rfl) rfl rfl ⟨_, _, _, _, _, _, _, _, _, P.K 201 _ rfl, rfl, rfl, rfl, rfl, rfl, rfl, rfl, rfl, by decide⟩ ⟨_, _, _, _, rfl, P.K 201 _ rfl, rfl, rfl⟩ (by kernel_rfl) (by walk_at "lk") ?_
  walk_at "ev"
  refine ⟨⟨_, _, P.K 83 _ rfl, rfl⟩, hT, fun g' fa H3 c' oc O K hle hTA => ?_⟩
  refine opq fun Gq hGq => ?_
  obtain ⟨pt, hpt⟩ := hT.at
  have hl9 : l ≠ 199 := fun q => by subst q; rw [hH] at hpt; cases hpt
  have hc9 := tab_ne hTA
  obtain ⟨ps, t1, t2, t3, t4, t5⟩ := id hTA
  refine hGq ?_
  have hH3 := hle l _ hl9 hH
  have hlc : l ≠ c' := fun q => by subst q; rw [hH3] at t4; cases t4
  refine s_nsm (n := n) (P.over O) (t := t) K nd h1 h3 h64 (by rw [HF.del_other hlc]; exact hH3) fun R d hR hd hcd => ?_
  have hdc : d ≠ c' := fun q => by subst q; rw [HF.set_self] at hcd; cases hcd
  have hd9 : d ≠ 199 := fun q => by subst q; rw [HF.del_other (Ne.symm hc9), t1] at hd; cases hd
  have k1 : (((H3.del c').set d (.list (ni R))).set c' (.obj oc)) d = some (.list (ni R)) := by rw [HF.set_other hdc, HF.set_self]
  have k2 : ∀ b z, b ≠ 199 → H b = some z → (((H3.del c').set d (.list (ni R))).set c' (.obj oc)) b = some z := fun b z hb e => by
    have e3 := hle b z hb e
    by_cases hbc : b = c'
    · subst hbc; rw [HF.set_self, ← t4]; exact e3
    · have hbd : b ≠ d := fun q => by subst q; rw [HF.del_other hbc, e3] at hd; cases hd
      rw [HF.set_other hbc, HF.set_other hbd, HF.del_other hbc]; exact e3
  have k3 : TabOK (((H3.del c').set d (.list (ni R))).set c' (.obj oc)) 199 posA qA := tab_ok hTA (by rw [HF.set_other (Ne.symm hc9), HF.set_other (Ne.symm hd9), HF.del_other (Ne.symm hc9)]) (by rw [HF.set_self, t4])
  generalize (((H3.del c').set d (.list (ni R))).set c' (.obj oc)) = HN at k1 k2 k3
  have hRl : R.length ≤ 3 := by rw [hR.len]; exact Nat.le_trans (Nat.min_le_left _ _) h3
  have hRv : ∀ x ∈ R, x < 262144 := fun x hx => hv x (hR.sub x hx)
  have hfl := fl_len R hRv
  have ho := fl_oct R
  walk_at "ev"
  refine EvE_CompM [] rfl (by kernel_rfl) rfl (by kernel_rfl) ?_
  walk_at "ev"
  refine ⟨.list d (ni R), rfl, k1, ?_⟩
  refine EvG_mk (σ := Nat) (fun _ => []) (fun _ => HN) (fun i => ni ((R.take i).flatMap octs)) (fun i st => st = i) rfl (fun g hg => by cases hg; rfl) ⟨0, rfl, Vars.Le.refl _, HF.Le.refl _, rfl⟩ fun i st hS => ⟨k1, fun x hx => ?_, fun hx => ?_⟩
  · refine opq fun Gq hGq => ?_
    subst hS
    obtain ⟨p, hp, rfl⟩ := ni_get hx
    refine hGq ?_
    have hpv : p < 262144 := hRv p (List.mem_of_getElem? hp)
    have htk : R.take (st + 1) = R.take st ++ [p] := take_succ_of hp
    walk_at "ev"
    refine ⟨fun _ => ?_, fun q => (nomatch q)⟩
    refine EvIn_gen rfl rfl ?_
    walk_at "ev"
    refine ⟨⟨_, _, P.K 197 _ rfl, rfl⟩, s_octets P hpv fun a ha => ?_⟩
    have hfl2 : ((R.take st).flatMap octs).length ≤ 9 := by
      have h9 := fl_len (R.take st) fun x hx => hRv x (List.mem_of_mem_take hx)
      rw [List.length_take] at h9; with_reducible exact sa1 (by assumption) (by assumption)
    have hol := octs_len hpv
    refine ⟨.list a (ni (octs p)), rfl, HF.set_self .., ?_⟩
    refine EvG_mk (σ := Nat) (fun _ => [(Str.ofString "one", .int p)]) (fun _ => HN.set a (.list (ni (octs p)))) (fun j => ni ((R.take st).flatMap octs ++ (octs p).take j)) (fun j st2 => st2 = j) rfl (fun g hg => by (first | exact nsF hg | exact snF hg | obtain rfl := Option.some.inj hg | cases hg)) ⟨0, rfl, (by walk_at "vle"), HF.Le.refl _, by simp⟩ fun j st2 hS2 => ⟨HF.set_self .., fun y hy => ?_, fun hy => ?_⟩
    · refine opq fun Gq hGq => ?_
      subst hS2
      obtain ⟨o, ho2, rfl⟩ := ni_get hy
      refine hGq ?_
      walk_at "ev"
      refine ⟨fun _ => ?_, fun q => (nomatch q)⟩
      refine EvIn_elt rfl ?_
      walk_at "ev"
      refine ⟨by rw [ni_length, List.length_append, List.length_take]; with_reducible exact sa2 (by assumption) (by assumption), st2 + 1, rfl, (by walk_at "vle"), HF.Le.refl _, ?_⟩
      rw [take_succ_of ho2, ← List.append_assoc, ni_append]; rfl
    · have hj := ni_get_none hy
      obtain rfl := Eq.symm hS2
      refine ⟨st + 1, rfl, vle_nil, HF.Le.newK ha (HF.Le.refl _), ?_⟩
      rw [htk, List.flatMap_append, List.take_of_length_le hj]
      simp
  · have hi := ni_get_none hx
    obtain rfl := Eq.symm hS
    dsimp only
    rw [List.take_of_length_le hi]
    intro a ha
    walk_at "ev"
    refine ⟨trivial, calls_bytesN (HF.set_self ..) (fun x hx => by have := ho x hx; with_reducible exact Nat.lt_of_lt_of_le (by assumption) (by decide)) (by with_reducible exact sa3 (by assumption) (by assumption)) ?_⟩
    walk_at "ev"
    refine ⟨⟨_, _, P.K 156 _ rfl, rfl⟩, s_b64encode P (fun x hx => by have := ho x hx; with_reducible exact Nat.lt_of_lt_of_le (by assumption) (by decide)) (by with_reducible exact sa4 (by assumption) (by assumption)) ?_⟩
    walk_at "ev"
    exact ⟨HN, HF.Le.newK ha (HF.Le.refl _), h R HN hR k2 k3⟩
end
end
section
open PySem.W (Dat kqdOk)
theorem map_none {α : Type} {l : List α} {f : α → PV} {i : Nat} (h : (l.map f)[i]? = none) : l.length ≤ i := by simpa using h
theorem map_get {α : Type} {l : List α} {f : α → PV} {i : Nat} {x : PV} (h : (l.map f)[i]? = some x) : ∃ y, l[i]? = some y ∧ x = f y := by
  rw [List.getElem?_map] at h
  obtain ⟨y, h1, h2⟩ := Option.map_eq_some_iff.mp h
  exact ⟨y, h1, h2.symm⟩
theorem range_get {c : Addr} {k : Nat} {i : Nat} {x : PV} (h : (Src.range c 0 (k : Int)).items[i]? = some x) : i < k ∧ x = .int (i : Int) := by
  have h : (rangeL 0 (k : Int))[i]? = some x := h
  rw [rangeL_get] at h
  split at h
  · (first | exact nsF h | exact snF h | obtain rfl := Option.some.inj h | cases h); exact ⟨by with_reducible exact cs1 (by assumption), by rw [Int.zero_add]⟩
  · (first | exact nsF h | exact snF h | obtain rfl := Option.some.inj h | cases h)
theorem RDs_map {H : HF} {α : Type} {f : α → PV} {d : α → Dat} : ∀ {l : List α}, (∀ x ∈ l, RD H (f x) (d x)) → RDs H (l.map f) (l.map d)
  | [], _ => .nil
  | x :: r, h => .cons (h x (by simp)) (RDs_map fun y hy => h y (by simp [hy]))
theorem map_inj {α β : Type} {d : α → β} (hd : ∀ x y, d x = d y → x = y) : ∀ {l k : List α}, l.map d = k.map d → l = k
  | [], [], _ => rfl
  | [], _ :: _, h => by (first | exact nsF h | exact snF h | obtain rfl := Option.some.inj h | cases h)
  | _ :: _, [], h => by (first | exact nsF h | exact snF h | obtain rfl := Option.some.inj h | cases h)
  | x :: r, y :: k, h => by
    simp only [List.map_cons, List.cons.injEq] at h
    rw [hd _ _ h.1, map_inj hd h.2]
noncomputable def dN (x : Nat) : Dat := .int (x : Int)
theorem dN_inj : ∀ x y, dN x = dN y → x = y := fun x y h => by unfold dN at h; injection h with h; exact Int.ofNat.inj h
noncomputable def dI (x : Int) : Dat := .int x
theorem dI_inj : ∀ x y, dI x = dI y → x = y := fun x y h => by unfold dI at h; injection h
noncomputable def dT (l : List Int) : Dat := .tuple (l.map dI)
theorem dT_inj : ∀ x y, dT x = dT y → x = y := fun x y h => by unfold dT at h; injection h with h; exact map_inj dI_inj h
theorem rd_ti {H : HF} (l : List Int) : RD H (ti l) (dT l) := RD.tup (RDs_map fun x _ => RD.int x)
theorem rd_ni {H : HF} {a : Addr} {l : List Nat} (h : H a = some (.list (ni l))) : RD H (.ref a) (.list (l.map dN)) := RD.list h (RDs_map fun x _ => RD.int _)
theorem rd_tis {H : HF} {a : Addr} {l : List (List Int)} (h : H a = some (.list (l.map ti))) : RD H (.ref a) (.list (l.map dT)) := RD.list h (RDs_map fun x _ => rd_ti x)
theorem ok_N (l : List Nat) : kqdOk 9 (.list (l.map dN)) = true := by
  simp only [kqdOk, List.all_eq_true]
  intro x hx
  obtain ⟨y, _, rfl⟩ := List.mem_map.mp hx
  rfl
theorem ok_T (k : Nat) (l : List Int) : kqdOk (k + 1) (dT l) = true := by
  unfold dT
  simp only [kqdOk, List.all_eq_true]
  intro x hx
  obtain ⟨y, _, rfl⟩ := List.mem_map.mp hx
  cases k <;> rfl
theorem ok_Ts (l : List (List Int)) (k : Nat) : kqdOk (k + 2) (.list (l.map dT)) = true := by
  simp only [kqdOk, List.all_eq_true]
  intro x hx
  obtain ⟨y, _, rfl⟩ := List.mem_map.mp hx
  exact ok_T k y
section
variable {g : G} {n : Nat} {H : HF} {Q : PV → HF → Prop}
theorem cmp_eq_ni {a b : Addr} {xs ys : List Nat} (h1 : H a = some (.list (ni xs))) (h2 : H b = some (.list (ni ys))) (h : Q (.bool (decide (xs = ys))) H) : CmpO g n .Eq (.ref a) (.ref b) H Q :=
  cmp_eq_data _ (rd_ni h1) (rd_ni h2) (ok_N _) (ok_N _) (by rw [decide_eq_true_eq]; exact ⟨fun e => by rw [e], fun e => by injection e with e; exact map_inj dN_inj e⟩) h
theorem cmp_ne_tis {a b : Addr} {xs ys : List (List Int)} (h1 : H a = some (.list (xs.map ti))) (h2 : H b = some (.list (ys.map ti))) (h : Q (.bool (!decide (xs = ys))) H) : CmpO g n .NotEq (.ref a) (.ref b) H Q :=
  cmp_ne_data _ (rd_tis h1) (rd_tis h2) (ok_Ts _ 7) (ok_Ts _ 7) (by rw [decide_eq_true_eq]; exact ⟨fun e => by rw [e], fun e => by injection e with e; exact map_inj dT_inj e⟩) h
theorem s_branch (P : Prog g) {own one other : Nat} (h : Q (.bool (br own one other)) H) : Calls g (n + 1) (.ref 185) [.int (own : Nat), .int (one : Nat), .int (other : Nat)] [] H Q := by
  have gq0 := Prog.g_min P
  refine calls_fnX (P.K 185 _ rfl) rfl rfl rfl (by kernel_rfl) rfl rfl rfl ⟨_, _, _, rfl, P.K _ _ rfl, rfl, rfl⟩ (binds3 (x := Str.ofString "own") (y := Str.ofString "one") (z := Str.ofString "other") P.K fun _ _ _ _ => by kernel_rfl) ?_
  walk_at "ev"
  refine EvE_Compare rfl ?_
  walk_at "ev"
  refine bin_xorN ?_
  walk_at "ev"
  refine bin_xorN ?_
  walk_at "ev"
  refine bin_xorN ?_
  walk_at "ev"
  refine ⟨trivial, calls_min2 ?_⟩
  walk_at "ev"
  refine ⟨_, HF.Le.refl _, ?_⟩
  have e : br own one other = decide (((one ^^^ other : Nat) : Int) < min ((one ^^^ own : Nat) : Int) ((other ^^^ own : Nat) : Int)) := by
    unfold br
    exact decide_eq_decide.mpr (by omega)
  rw [e] at h
  exact h
noncomputable def nearP (t f : Nat) : PV → Option PV
  | .int x => if x.toNat ^^^ t < f then some (.int x) else none
  | _ => none
theorem nearP_len (t f : Nat) : ∀ l : List Nat, ((ni l).filterMap (nearP t f)).length = nearN t l f
  | [] => rfl
  | x :: r => by
    have ih := nearP_len t f r
    unfold nearN at ih ⊢
    show (List.filterMap (nearP t f) (.int (x : Int) :: ni r)).length = _
    rw [List.filterMap_cons, List.filter_cons]
    have e : nearP t f (.int (x : Int)) = if x ^^^ t < f then some (.int x) else none := rfl
    rw [e]
    by_cases q : x ^^^ t < f
    · rw [if_pos q, decide_eq_true q, if_pos rfl, List.length_cons, List.length_cons, ih]
    · rw [if_neg q, decide_eq_false q, if_neg (by decide)]; exact ih
theorem s_nearer (P : Prog g) {a : Addr} {t f : Nat} {l : List Nat} (hH : H a = some (.list (ni l))) (hl : l.length ≤ 1000) (h : Q (.int (nearN t l f : Nat)) H) : Calls g (n + 1) (.ref 214) [.ref a, .int (t : Nat), .int (f : Nat)] [] H Q := by
  have gq0 := Prog.g_len P
  refine calls_fnX (P.K 214 _ rfl) rfl rfl rfl (by kernel_rfl) rfl rfl rfl ⟨_, _, _, rfl, P.K _ _ rfl, rfl, rfl⟩ (binds3 (x := Str.ofString "known") (y := Str.ofString "target") (z := Str.ofString "far") P.K fun _ _ _ _ => by kernel_rfl) ?_
  walk_at "ev"
  refine EvE_Comp1 [(Str.ofString "target", .int (t : Nat)), (Str.ofString "far", .int (f : Nat))] (nearP t f) (by kernel_rfl) (by kernel_rfl) (by kernel_rfl) ?_
  walk_at "ev"
  have hnl := nearP_len t f l
  have h2 : nearN t l f ≤ l.length := List.length_filter_le _ _
  refine ⟨.list a (ni l), rfl, hH, by show (ni l).length ≤ _; rw [ni_length]; with_reducible exact Nat.le_trans (by assumption) (by decide), fun i x hx => ?_, fun d hd => ?_⟩
  · obtain ⟨u, hu, rfl⟩ := ni_get hx
    walk_at "ev"
    refine ⟨vle_new (by kernel_rfl) (Vars.Le.refl _), ?_⟩
    have e : nearP t f (.int (u : Int)) = if u ^^^ t < f then some (.int u) else none := rfl
    walk_at "ev"
    refine bin_xorN ?_
    walk_at "ev"
    refine ⟨fun hb => ?_, fun hb => ?_⟩
    · have hb := of_decide_eq_true hb
      walk_at "ev"
      exact ⟨HF.Le.refl _, by rw [e, if_pos (by with_reducible exact Int.ofNat_lt.mp (by assumption))]⟩
    · have hb := of_decide_eq_false hb
      exact ⟨HF.Le.refl _, by rw [e, if_neg (by (intro _; with_reducible exact z8 (by assumption) (by assumption)))]⟩
  · rw [show (Src.list a (ni l)).items = ni l from rfl]
    walk_at "ev"
    refine ⟨trivial, calls_len (HF.set_self ..) (by with_reducible exact tZ (by assumption) (by assumption) (by assumption)) ?_⟩
    rw [hnl]
    walk_at "ev"
    exact ⟨_, HF.Le.newK hd (HF.Le.refl _), h⟩
noncomputable def rowOf (ns : List Nat) (turn : Nat) : List Nat := ns.drop turn ++ ns.take turn
noncomputable def brP (own other : Nat) : PV → Option PV
  | .int x => if br own x.toNat other = true then some (.int x) else none
  | _ => none
theorem brP_len (own other : Nat) : ∀ l : List Nat, ((ni l).filterMap (brP own other)).length = (l.filter fun one => br own one other).length
  | [] => rfl
  | x :: r => by
    have ih := brP_len own other r
    show (List.filterMap (brP own other) (.int (x : Int) :: ni r)).length = _
    rw [List.filterMap_cons, List.filter_cons]
    have e : brP own other (.int (x : Int)) = if br own x other = true then some (.int x) else none := rfl
    rw [e]
    by_cases q : br own x other = true
    · rw [if_pos q, if_pos q, List.length_cons, List.length_cons, ih]
    · rw [if_neg q, if_neg q]; exact ih
theorem tbl_len (own few : Nat) : ∀ (r tb : List Nat), (r.foldl (tbl1 own few) tb).length ≤ tb.length + r.length
  | [], tb => by simp
  | x :: r, tb => by
    rw [List.foldl_cons]
    have := tbl_len own few r (tbl1 own few tb x)
    have h : (tbl1 own few tb x).length ≤ tb.length + 1 := by
      rcases tbl1_grow own few tb x with q | q <;> rw [q] <;> simp
    rw [List.length_cons]; with_reducible exact fa1 (by assumption) (by assumption)
theorem s_table (P : Prog g) {a : Addr} {own turn few : Nat} {ns : List Nat} (hH : H a = some (.list (ni ns))) (hl : ns.length ≤ 1000) (h : ∀ d, H d = none → Q (.ref d) (H.set d (.list (ni (tblOf own few (rowOf ns turn)))))) :
    Calls g (n + 2) (.ref 190) [.ref a, .int (own : Nat), .int (turn : Nat), .int (few : Nat)] [] H Q := by
  have gq0 := Prog.g_law_branch P
  have gq1 := Prog.g_len P
  refine calls_fnX (P.K 190 _ rfl) rfl rfl rfl (by kernel_rfl) rfl rfl rfl ⟨_, _, _, rfl, P.K _ _ rfl, rfl, rfl⟩ (binds4 (x := Str.ofString "nodes") (y := Str.ofString "own") (z := Str.ofString "turn") (w := Str.ofString "few") P.K fun _ _ _ _ _ => by kernel_rfl) ?_
  walk_at "ev"
  refine ⟨by decide, fun tb htb => ?_⟩
  walk_at "ev"
  have hta : a ≠ tb := fun q => by obtain rfl := Eq.symm q; rw [hH] at htb; (first | exact nsF htb | exact snF htb | obtain rfl := Option.some.inj htb | cases htb)
  have hrl : (rowOf ns turn).length ≤ 2000 := by unfold rowOf; rw [List.length_append, List.length_drop, List.length_take]; with_reducible exact mi10 (by assumption)
  refine EvS_ForS (σ := List Nat) (fun _ _ => [(Str.ofString "table", .ref tb), (Str.ofString "own", .int (own : Nat)), (Str.ofString "few", .int (few : Nat))]) (fun src st => (match src with | .list c xs => H.set c (.list xs) | _ => H).set tb (.list (ni st)))
    (fun src i st => (∃ c, src = .list c (ni (rowOf ns turn)) ∧ c ≠ tb ∧ H c = none) ∧ st = ((rowOf ns turn).take i).foldl (tbl1 own few) []) rfl ?_
  walk_at "ev"
  refine sli_list (lo := some turn) (hi := none) (by rw [HF.set_other hta]; exact hH) (by rw [ni_length]; with_reducible exact Nat.le_trans (by assumption) (by decide)) fun b hb => ?_
  obtain ⟨hbt, hb⟩ := HF.set_none hb
  have hab : a ≠ b := fun q => by obtain rfl := Eq.symm q; rw [hH] at hb; (first | exact nsF hb | exact snF hb | obtain rfl := Option.some.inj hb | cases hb)
  walk_at "ev"
  refine sli_list (lo := none) (hi := some turn) (by rw [HF.set_other hab, HF.set_other hta]; exact hH) (by rw [ni_length]; with_reducible exact Nat.le_trans (by assumption) (by decide)) fun e he => ?_
  obtain ⟨heb, he⟩ := HF.set_none he
  obtain ⟨het, he⟩ := HF.set_none he
  have e1 : (((ni ns).drop ((some turn).getD 0)).take (min ((none : Option Nat).getD (ni ns).length) (ni ns).length - (some turn).getD 0)) = ni (ns.drop turn) := by
    simp only [Option.getD_some, Option.getD_none, Nat.min_self, ni, List.length_map, ← List.map_drop]
    rw [List.take_of_length_le (by simp)]
  have e2 : (((ni ns).drop ((none : Option Nat).getD 0)).take (min ((some turn).getD (ni ns).length) (ni ns).length - (none : Option Nat).getD 0)) = ni (ns.take turn) := by
    simp only [Option.getD_none, Option.getD_some, List.drop_zero, Nat.sub_zero, ni, List.length_map, ← List.map_take]
    rcases Nat.le_total turn ns.length with q | q
    · rw [Nat.min_eq_left q]
    · rw [Nat.min_eq_right q, List.take_length, List.take_of_length_le q]
  rw [e1, e2]
  refine bin_addL (xs := ni (ns.drop turn)) (ys := ni (ns.take turn)) (by rw [HF.set_other (Ne.symm heb), HF.set_self]) (HF.set_self ..) (by rw [ni_length, ni_length, List.length_drop, List.length_take]; with_reducible exact mi11 (by assumption)) fun c hc => ?_
  rw [← ni_append, show ns.drop turn ++ ns.take turn = rowOf ns turn from rfl]
  obtain ⟨hce, hc⟩ := HF.set_none hc
  obtain ⟨hcb, hc⟩ := HF.set_none hc
  obtain ⟨hct, hc⟩ := HF.set_none hc
  refine ⟨.list c (ni (rowOf ns turn)), rfl, HF.set_self .., ⟨[], ⟨⟨c, rfl, hct, hc⟩, rfl⟩, (by walk_at "vle"), ?_⟩, ?_⟩
  · intro d z ez
    by_cases q1 : d = tb
    · subst q1; rw [HF.set_self] at ez; rw [HF.set_other (Ne.symm hct), HF.set_other (Ne.symm het), HF.set_other (Ne.symm hbt), HF.set_self]; exact ez
    · rw [HF.set_other q1] at ez
      by_cases q2 : d = c
      · subst q2; rw [HF.set_self]; have ez : (H.set d (.list (ni (rowOf ns turn)))) d = some z := ez; rw [HF.set_self] at ez; exact ez
      · have ez : (H.set c (.list (ni (rowOf ns turn)))) d = some z := ez
        rw [HF.set_other q2] at ez
        have q3 : d ≠ e := fun w => by obtain rfl := Eq.symm w; rw [he] at ez; (first | exact nsF ez | exact snF ez | obtain rfl := Option.some.inj ez | cases ez)
        have q4 : d ≠ b := fun w => by obtain rfl := Eq.symm w; rw [hb] at ez; (first | exact nsF ez | exact snF ez | obtain rfl := Option.some.inj ez | cases ez)
        rw [HF.set_other q2, HF.set_other q3, HF.set_other q4, HF.set_other q1]; exact ez
  · rintro i st ⟨_, hS⟩
    have hstl : st.length ≤ 2000 := by
      rw [hS]
      have := tbl_len own few ((rowOf ns turn).take i) []
      rw [List.length_take] at this
      simp at this; with_reducible exact st1 (by assumption) (by assumption)
    dsimp only
    refine ⟨by show ((H.set c _).set tb _) c = _; rw [HF.set_other hct, HF.set_self], fun x hx => ?_, fun hx => ?_⟩
    · obtain ⟨o, ho, rfl⟩ := ni_get hx
      generalize hTE : TurnEnd _ _ _ _ = TE; revert TE; refine bar ?_; intro TE hTE
      have htk : ((rowOf ns turn).take (i + 1)).foldl (tbl1 own few) [] = tbl1 own few st o := by rw [take_succ_of ho, List.foldl_append, ← hS]; rfl
      walk_at "ev"
      refine EvS_If ?_
      walk_at "ev"
      refine ⟨fun hb => ?_, fun hb => ?_⟩
      · have hne : o ≠ own := fun z => by obtain rfl := Eq.symm z; simp at hb
        walk_at "ev"
        refine EvE_Comp1 [(Str.ofString "other", .int (o : Nat)), (Str.ofString "own", .int (own : Nat))] (brP own o) (by kernel_rfl) (by kernel_rfl) (by kernel_rfl) ?_
        walk_at "ev"
        have hbl := brP_len own o st
        have hbl2 : (st.filter fun one => br own one o).length ≤ st.length := List.length_filter_le _ _
        refine ⟨.list tb (ni st), rfl, HF.set_self .., by show (ni st).length ≤ _; rw [ni_length]; with_reducible exact Nat.le_trans (by assumption) (by decide), fun j y hy => ?_, fun d hd => ?_⟩
        · obtain ⟨u, hu, rfl⟩ := ni_get hy
          have e : brP own o (.int (u : Int)) = if br own u o = true then some (.int u) else none := rfl
          walk_at "ev"
          refine ⟨vle_new (by kernel_rfl) (Vars.Le.refl _), ?_⟩
          walk_at "ev"
          refine ⟨⟨_, _, P.K 185 _ rfl, rfl⟩, s_branch P ?_⟩
          walk_at "ev"
          refine ⟨fun hb => ?_, fun hb => ?_⟩
          · walk_at "ev"
            exact ⟨HF.Le.refl _, by rw [e, if_pos hb]⟩
          · exact ⟨HF.Le.refl _, by rw [e, hb]; rfl⟩
        · rw [show (Src.list tb (ni st)).items = ni st from rfl]
          walk_at "ev"
          refine ⟨trivial, calls_len (HF.set_self ..) (by with_reducible exact st2 (by assumption) (by assumption) (by assumption)) ?_⟩
          rw [hbl]
          obtain ⟨hdt, hd⟩ := HF.set_none hd
          walk_at "ev"
          refine ⟨fun hf => ?_, fun hf => ?_⟩
          · have hf := of_decide_eq_true hf
            walk_at "ev"
            refine ⟨fun _ => ?_, fun q => (nomatch q)⟩
            walk_at "ev"
            refine ⟨tb, _, rfl, by rw [HF.set_other (Ne.symm hdt), HF.set_self], ?_⟩
            walk_at "ev"
            refine calls_append (by rw [HF.set_other (Ne.symm hdt), HF.set_self]) (by rw [ni_length]; with_reducible exact Nat.lt_of_le_of_lt (by assumption) (by decide)) ?_
            walk_at "ev"
            refine ⟨st ++ [o], ⟨⟨c, rfl, hct, hc⟩, ?_⟩, (by walk_at "vle"), ?_⟩
            · rw [htk]; unfold tbl1; rw [if_pos ⟨hne, by with_reducible exact Int.ofNat_lt.mp (by assumption)⟩]
            · rw [ni_append]
              intro d2 z ez
              by_cases q1 : d2 = tb
              · obtain rfl := Eq.symm q1; rw [HF.set_self] at ez ⊢; exact ez
              · rw [HF.set_other q1] at ez ⊢
                have q2 : d2 ≠ d := fun w => by obtain rfl := Eq.symm w; rw [hd] at ez; (first | exact nsF ez | exact snF ez | obtain rfl := Option.some.inj ez | cases ez)
                rw [HF.set_other q2, HF.set_other q1]; exact ez
          · have hf := of_decide_eq_false hf
            refine ⟨fun q => (nomatch q), fun _ => ?_⟩
            walk_at "ev"
            refine ⟨st, ⟨⟨c, rfl, hct, hc⟩, ?_⟩, (by walk_at "vle"), ?_⟩
            · rw [htk]; unfold tbl1; rw [if_neg (fun q => hf (by with_reducible exact (st3 (by assumption) (by assumption)).elim))]
            · exact HF.Le.newK (by
                by_cases q1 : d = tb
                · exact absurd q1 hdt
                · rw [HF.set_other q1]; exact hd) (HF.Le.refl _)
      · have hne : o = own := Int.ofNat.inj (show (o : Int) = own by simpa using hb)
        refine ⟨fun q => (nomatch q), fun _ => ?_⟩
        walk_at "ev"
        refine ⟨st, ⟨⟨c, rfl, hct, hc⟩, ?_⟩, (by walk_at "vle"), HF.Le.refl _⟩
        rw [htk]; unfold tbl1; rw [if_neg (fun q => q.1 hne)]
    · have hi := ni_get_none hx
      rw [List.take_of_length_le hi] at hS
      obtain rfl := Eq.symm hS
      walk_at "ev"
      refine ⟨_, ?_, h tb htb⟩
      exact HF.Le.cong (HF.Le.newK hc (HF.Le.refl _))
end
end
section
theorem ni_eq (l : List Nat) : ni l = (l.map fun (x : Nat) => (x : Int)).map .int := by simp [ni]
noncomputable def nat18 (x : Int) : Nat := (x.fmod 262144).toNat
theorem nat18_eq (x : Int) : x.fmod 262144 = ((nat18 x : Nat) : Int) := by
  have := Int.fmod_nonneg_of_pos x (b := 262144) (by decide)
  unfold nat18; with_reducible exact ix2 (by assumption)
theorem nat18_lt (x : Int) : nat18 x < 262144 := by
  have := Int.fmod_lt_of_pos x (b := 262144) (by decide)
  unfold nat18; with_reducible exact n18 (by assumption)
noncomputable def nd1 (acc : List Nat) (x : Int) : List Nat := if nat18 x ∉ acc ∧ acc.length < 8 then acc ++ [nat18 x] else acc
noncomputable def fix8 : List Int := [262143, 4101, 70000, 44, 300, 6, 5, 37]
noncomputable def nodesOf (ns : List Int) : List Nat := ((ns.drop 2).take 7 ++ fix8).foldl nd1 []
theorem nd_ok : ∀ (L : List Int) (acc : List Nat), acc.Nodup → acc.length ≤ 8 → (∀ x ∈ acc, x < 262144) → (L.foldl nd1 acc).Nodup ∧ (L.foldl nd1 acc).length ≤ 8 ∧ (∀ x ∈ L.foldl nd1 acc, x < 262144) ∧ (∀ x ∈ acc, x ∈ L.foldl nd1 acc) ∧
    ((L.foldl nd1 acc).length < 8 → ∀ x ∈ L, nat18 x ∈ L.foldl nd1 acc)
  | [], acc, h1, h2, h3 => ⟨h1, h2, h3, fun x hx => hx, fun _ x hx => absurd hx List.not_mem_nil⟩
  | x :: L, acc, h1, h2, h3 => by
    rw [List.foldl_cons]
    have hn : (nd1 acc x).Nodup ∧ (nd1 acc x).length ≤ 8 ∧ (∀ y ∈ nd1 acc x, y < 262144) ∧ (∀ y ∈ acc, y ∈ nd1 acc x) ∧ ((nd1 acc x).length < 8 → nat18 x ∈ nd1 acc x) := by
      unfold nd1
      split
      · rename_i q
        refine ⟨?_, by rw [List.length_append]; simp; with_reducible exact nk1 (by assumption), fun y hy => ?_, fun y hy => List.mem_append_left _ hy, fun _ => by simp⟩
        · rw [List.nodup_append]
          exact ⟨h1, by simp, fun a ha b hb e => by
            have : b = nat18 x := by simpa using hb
            obtain rfl := Eq.symm this; obtain rfl := Eq.symm e; exact q.1 ha⟩
        · rcases List.mem_append.mp hy with r | r
          · exact h3 y r
          · have : y = nat18 x := by simpa using r
            rw [this]; exact nat18_lt x
      · rename_i q
        refine ⟨h1, h2, h3, fun y hy => hy, fun hl => ?_⟩
        rcases Decidable.em (nat18 x ∈ acc) with r | r
        · exact r
        · exact absurd ⟨r, hl⟩ q
    refine opq fun Gq hGq => ?_
    obtain ⟨i1, i2, i3, i4, i5⟩ := nd_ok L (nd1 acc x) hn.1 hn.2.1 hn.2.2.1
    refine hGq ?_
    refine ⟨i1, i2, i3, fun y hy => i4 y (hn.2.2.2.1 y hy), fun hl y hy => ?_⟩
    rcases List.mem_cons.mp hy with r | r
    · obtain rfl := Eq.symm r
      refine i4 _ (hn.2.2.2.2 ?_)
      have := nodup_sub_len hn.1 i4
      with_reducible exact Nat.lt_of_le_of_lt (by assumption) (by assumption)
    · exact i5 hl y r
theorem nodes_ok (ns : List Int) : (nodesOf ns).Nodup ∧ (nodesOf ns).length = 8 ∧ ∀ x ∈ nodesOf ns, x < 262144 := by
  refine opq fun Gq hGq => ?_
  obtain ⟨i1, i2, i3, _, i5⟩ := nd_ok ((ns.drop 2).take 7 ++ fix8) [] List.nodup_nil (by decide) (fun x hx => absurd hx List.not_mem_nil)
  refine hGq ?_
  refine ⟨i1, ?_, i3⟩
  rcases Nat.lt_or_ge (((ns.drop 2).take 7 ++ fix8).foldl nd1 []).length 8 with q | q
  · have hin := i5 q
    have hsub : ∀ y ∈ fix8.map nat18, y ∈ ((ns.drop 2).take 7 ++ fix8).foldl nd1 [] := fun y hy => by
      obtain ⟨x, hx, rfl⟩ := List.mem_map.mp hy
      exact hin x (List.mem_append_right _ hx)
    have := nodup_sub_len (l := fix8.map nat18) (by decide +kernel) hsub
    have e : (fix8.map nat18).length = 8 := rfl
    with_reducible exact (kj5 (by assumption) (by assumption) (by assumption)).elim
  · exact Nat.le_antisymm i2 q
section
variable {g : G} {n : Nat} {H : HF} {Q : PV → HF → Prop}
theorem sli_base {v : Expr} {l u : Option Expr} {p2 : Pos} {a : Addr} {vs : Array Value} {xs : List PV} {lo hi : Option Nat} (hL : g.h₀.IsList a vs) (hD : DenL g.h₀ xs vs.toList) (hn : xs.length ≤ 100000)
    (h : ∀ c, H c = none → Q (.ref c) (H.set c (.list ((xs.drop (lo.getD 0)).take (min (hi.getD xs.length) xs.length - lo.getD 0))))) : SliO g n v (.Slice l u none p2) (.ref a) (optI lo) (optI hi) .none H Q := fun vo vl vu ws i => Op.mk fun A Fs R s E r I d => by
  refine opq fun Gq hGq => ?_
  obtain ⟨rfl, d1, d2, d3, hi'⟩ := d
  obtain ⟨o, h1, h2, k, h3⟩ := hL
  refine hGq ?_
  exact slice_gen I ⟨o, I.base _ _ h1, h2, k, h3⟩ (hD.keeps fun b o e _ => I.base b o e) hn d1 d2 d3 hi' h
theorem slice_eq {ns : List Int} {lo hi : Nat} (h : lo ≤ hi) : (((ns.map PV.int).drop ((some lo).getD 0)).take (min ((some hi).getD (ns.map PV.int).length) (ns.map PV.int).length - (some lo).getD 0)) = ((ns.drop lo).take (hi - lo)).map PV.int := by
  simp only [Option.getD_some, List.length_map, ← List.map_drop, ← List.map_take]
  congr 1
  rcases Nat.le_total hi ns.length with q | q
  · rw [Nat.min_eq_left q]
  · rw [Nat.min_eq_right q, List.take_of_length_le (by rw [List.length_drop]; exact Nat.le_refl _), List.take_of_length_le (by rw [List.length_drop]; with_reducible exact sg2 (by assumption))]
theorem s_nodes (P : Prog g) {a : Addr} {vs : Array Value} {ns : List Int} (hL : g.h₀.IsList a vs) (hD : DenL g.h₀ (ns.map .int) vs.toList) (hn : ns.length ≤ 100) (h : ∀ d, H d = none → Q (.ref d) (H.set d (.list (ni (nodesOf ns))))) : Calls g (n + 1) (.ref 178) [.ref a] [] H Q := by
  have gq0 := Prog.g_len P
  refine calls_fnX (P.K 178 _ rfl) rfl rfl rfl (by kernel_rfl) rfl rfl rfl ⟨_, _, _, rfl, P.K _ _ rfl, rfl, rfl⟩ (binds1 (x := Str.ofString "script") P.K fun _ _ => by kernel_rfl) ?_
  walk_at "ev"
  refine ⟨by decide, fun tb htb => ?_⟩
  walk_at "ev"
  refine EvS_ForS (σ := List Nat) (fun _ _ => [(Str.ofString "nodes", .ref tb)]) (fun src st => (match src with | .list c xs => H.set c (.list xs) | _ => H).set tb (.list (ni st)))
    (fun src i st => (∃ c, src = .list c (((ns.drop 2).take 7 ++ fix8).map .int) ∧ c ≠ tb ∧ H c = none) ∧ st = (((ns.drop 2).take 7 ++ fix8).take i).foldl nd1 []) rfl ?_
  walk_at "ev"
  refine sli_base (lo := some 2) (hi := some 9) hL hD (by simp; with_reducible exact Nat.le_trans (by assumption) (by decide)) fun b hb => ?_
  rw [slice_eq (by decide)]
  obtain ⟨hbt, hb⟩ := HF.set_none hb
  walk_at "ev"
  refine ⟨by decide, fun e he => ?_⟩
  obtain ⟨heb, he⟩ := HF.set_none he
  obtain ⟨het, he⟩ := HF.set_none he
  refine bin_addL (xs := ((ns.drop 2).take 7).map PV.int) (ys := fix8.map PV.int) (by rw [HF.set_other (Ne.symm heb), HF.set_self]) (HF.set_self ..) (by simp [fix8]; with_reducible exact mn7 _) fun c hc => ?_
  rw [← List.map_append]
  obtain ⟨hce, hc⟩ := HF.set_none hc
  obtain ⟨hcb, hc⟩ := HF.set_none hc
  obtain ⟨hct, hc⟩ := HF.set_none hc
  refine ⟨.list c (((ns.drop 2).take 7 ++ fix8).map .int), rfl, HF.set_self .., ⟨[], ⟨⟨c, rfl, hct, hc⟩, rfl⟩, (by walk_at "vle"), ?_⟩, ?_⟩
  · intro d z ez
    by_cases q1 : d = tb
    · subst q1; rw [HF.set_self] at ez; rw [HF.set_other (Ne.symm hct), HF.set_other (Ne.symm het), HF.set_other (Ne.symm hbt), HF.set_self]; exact ez
    · rw [HF.set_other q1] at ez
      by_cases q2 : d = c
      · subst q2; rw [HF.set_self]; have ez : (H.set d (.list (((ns.drop 2).take 7 ++ fix8).map .int))) d = some z := ez; rw [HF.set_self] at ez; exact ez
      · have ez : (H.set c (.list (((ns.drop 2).take 7 ++ fix8).map .int))) d = some z := ez
        rw [HF.set_other q2] at ez
        have q3 : d ≠ e := fun w => by obtain rfl := Eq.symm w; rw [he] at ez; (first | exact nsF ez | exact snF ez | obtain rfl := Option.some.inj ez | cases ez)
        have q4 : d ≠ b := fun w => by obtain rfl := Eq.symm w; rw [hb] at ez; (first | exact nsF ez | exact snF ez | obtain rfl := Option.some.inj ez | cases ez)
        rw [HF.set_other q2, HF.set_other q3, HF.set_other q4, HF.set_other q1]; exact ez
  · rintro i st ⟨_, hS⟩
    have hstl : st.length ≤ 8 := by rw [hS]; exact (nd_ok _ [] List.nodup_nil (by decide) (fun x hx => absurd hx List.not_mem_nil)).2.1
    dsimp only
    refine ⟨by show ((H.set c _).set tb _) c = _; rw [HF.set_other hct, HF.set_self], fun x hx => ?_, fun hx => ?_⟩
    · obtain ⟨o, ho, rfl⟩ := map_get hx
      generalize hTE : TurnEnd _ _ _ _ = TE; revert TE; refine bar ?_; intro TE hTE
      have htk : (((ns.drop 2).take 7 ++ fix8).take (i + 1)).foldl nd1 [] = nd1 st o := by rw [take_succ_of ho, List.foldl_append, ← hS]; rfl
      have hcon : ((st.map fun (x : Nat) => (x : Int)).contains ((nat18 o : Nat) : Int)) = decide (nat18 o ∈ st) := by
        rw [List.contains_eq_mem]
        exact decide_eq_decide.mpr ⟨fun q => by
          obtain ⟨y, h1, h2⟩ := List.mem_map.mp q
          have : y = nat18 o := by exact Int.ofNat.inj (by assumption)
          rw [← this]; exact h1, fun q => List.mem_map.mpr ⟨_, q, rfl⟩⟩
      walk_at "ev"
      refine EvS_If ?_
      walk_at "ev"
      refine bin_mod (by decide) ?_
      rw [nat18_eq]
      walk_at "ev"
      refine cmp_notin (ns := st.map fun (x : Nat) => (x : Int)) (by rw [← ni_eq]; exact HF.set_self ..) ?_
      rw [hcon]
      walk_at "ev"
      refine ⟨fun hb => ?_, fun hb => ?_⟩
      · have hb : nat18 o ∉ st := by simpa using hb
        walk_at "ev"
        refine ⟨trivial, calls_len (HF.set_self ..) (by rw [ni_length]; with_reducible exact Nat.le_trans (by assumption) (by decide)) ?_⟩
        rw [ni_length]
        walk_at "ev"
        refine ⟨fun hf => ?_, fun hf => ?_⟩
        · have hf := of_decide_eq_true hf
          walk_at "ev"
          refine ⟨fun _ => ?_, fun q => (nomatch q)⟩
          walk_at "ev"
          refine ⟨tb, _, rfl, HF.set_self .., ?_⟩
          walk_at "ev"
          refine bin_mod (by decide) ?_
          rw [nat18_eq]
          walk_at "ev"
          refine calls_append (HF.set_self ..) (by rw [ni_length]; with_reducible exact Nat.lt_of_le_of_lt (by assumption) (by decide)) ?_
          rw [HF.set_set]
          walk_at "ev"
          refine ⟨st ++ [nat18 o], ⟨⟨c, rfl, hct, hc⟩, ?_⟩, (by walk_at "vle"), ?_⟩
          · rw [htk]; unfold nd1; rw [if_pos ⟨hb, by exact Int.ofNat_lt.mp (by assumption)⟩]
          · rw [ni_append]; exact HF.Le.refl _
        · have hf := of_decide_eq_false hf
          refine ⟨fun q => (nomatch q), fun _ => ?_⟩
          walk_at "ev"
          refine ⟨st, ⟨⟨c, rfl, hct, hc⟩, ?_⟩, (by walk_at "vle"), HF.Le.refl _⟩
          rw [htk]; unfold nd1; rw [if_neg (fun q => hf (by omega))]
      · have hb : nat18 o ∈ st := by simpa using hb
        refine ⟨fun q => (nomatch q), fun _ => ?_⟩
        walk_at "ev"
        refine ⟨st, ⟨⟨c, rfl, hct, hc⟩, ?_⟩, (by walk_at "vle"), HF.Le.refl _⟩
        rw [htk]; unfold nd1; rw [if_neg (fun q => q.1 hb)]
    · have hi := map_none hx
      rw [List.take_of_length_le hi] at hS
      obtain rfl := Eq.symm hS
      walk_at "ev"
      refine ⟨_, ?_, h tb htb⟩
      exact HF.Le.cong (HF.Le.newK hc (HF.Le.refl _))
noncomputable def pr (p : Nat × Nat) : PV := ti [(p.1 : Int), (p.2 : Int)]
noncomputable def prevO (asked : List (Nat × Nat)) (i : Nat) : Option Nat := if i = 0 then none else (asked[i - 1]?).map (·.1)
theorem s_narrows (P : Prog g) {a : Addr} {asked : List (Nat × Nat)} {M : Nat} (hH : H a = some (.list (asked.map pr))) (hl : asked.length ≤ 1000) (h : Q (.bool (nar M none asked)) H) : Calls g (n + 2) (.ref 228) [.ref a, .int (M : Nat)] [] H Q := by
  have gq0 := Prog.g_law_branch P
  have gq1 := Prog.g_len P
  have gq2 := Prog.g_range P
  refine calls_fnX (P.K 228 _ rfl) rfl rfl rfl (by kernel_rfl) rfl rfl rfl ⟨_, _, _, rfl, P.K _ _ rfl, rfl, rfl⟩ (binds2 (x := Str.ofString "asked") (y := Str.ofString "nearest") P.K fun _ _ _ => by kernel_rfl) ?_
  walk_at "ev"
  obtain ⟨X, hX⟩ : ∃ X, X = nar M none asked := ⟨_, rfl⟩
  rw [← hX] at h
  refine EvS_For (σ := Unit) (fun _ => [(Str.ofString "asked", .ref a), (Str.ofString "nearest", .int (M : Nat))]) (fun _ => H) (fun i _ => nar M (prevO asked i) (asked.drop i) = X) rfl ?_
  walk_at "ev"
  refine ⟨trivial, calls_len hH (by simp; with_reducible exact Nat.le_trans (by assumption) (by decide)) ?_⟩
  rw [List.length_map]
  walk_at "ev"
  refine ⟨trivial, calls_range1 fun c hc => ?_⟩
  refine ⟨.range c 0 (asked.length : Nat), rfl, ⟨HF.set_self .., by with_reducible exact cs5 (by assumption)⟩, ⟨(), hX.symm, (by walk_at "vle"), HF.Le.newK hc (HF.Le.refl _)⟩, fun i _ hS => ⟨trivial, fun x hx => ?_, fun hx => ?_⟩⟩
  · obtain ⟨hi, rfl⟩ := range_get hx
    generalize hTE : TurnEnd _ _ _ _ = TE; revert TE; refine bar ?_; intro TE hTE
    have hp : asked[i]? = some asked[i] := List.getElem?_eq_getElem hi
    have hdrop : asked.drop i = asked[i] :: asked.drop (i + 1) := List.drop_eq_getElem_cons hi
    have hprev : prevO asked (i + 1) = some asked[i].1 := by unfold prevO; rw [if_neg (by with_reducible exact Nat.succ_ne_zero _), Nat.add_sub_cancel, hp]; rfl
    rw [hdrop] at hS
    generalize asked[i] = p at *
    obtain ⟨o, k⟩ := p
    unfold nar at hS
    walk_at "ev"
    refine sub_listN (k := i) (p := pr (o, k)) rfl hH (by with_reducible exact Nat.lt_of_le_of_lt (Nat.le_of_lt (by assumption)) (Nat.lt_of_le_of_lt (by assumption) (by decide))) (by rw [List.getElem?_map, hp]; rfl) ?_
    rw [show pr (o, k) = .tup [.int (o : Int), .int (k : Int)] from rfl]
    walk_at "ev"
    have hfal : (0 < k ∨ ∃ a, prevO asked i = some a ∧ br a o M = false) → X = false := fun c => by rw [if_pos c] at hS; exact hS.symm
    refine EvS_cut (σ := Unit) (fun _ => [(Str.ofString "own", .int (o : Int)), (Str.ofString "asked", .ref a), (Str.ofString "nearest", .int (M : Nat))]) (fun _ => H) (fun _ => ¬ (0 < k ∨ ∃ a, prevO asked i = some a ∧ br a o M = false)) (EvS_If ?_) fun _ hc => ?_
    · generalize hCU : Cut _ _ _ _ = CU; revert CU; refine bar ?_; intro CU hCU
      walk_at "ev"
      refine ⟨fun hk => ?_, fun hk => ?_⟩
      · have hk := of_decide_eq_true hk
        refine ⟨fun _ => ?_, fun q => (nomatch q)⟩
        walk_at "ev"
        refine ⟨H, HF.Le.refl _, ?_⟩
        rw [hfal (.inl (by with_reducible exact z5 (by assumption)))] at h
        exact h
      · have hk := of_decide_eq_false hk
        walk_at "ev"
        refine ⟨fun hi0 => ?_, fun hi0 => ?_⟩
        · have hi0 := of_decide_eq_true hi0
          have hi1 : i - 1 < asked.length := by with_reducible exact z4 (by assumption)
          have hp1 : asked[i - 1]? = some asked[i - 1] := List.getElem?_eq_getElem hi1
          have hprev2 : prevO asked i = some asked[i - 1].1 := by unfold prevO; rw [if_neg (by (intro _; with_reducible exact z2 (by assumption) (by assumption))), hp1]; rfl
          generalize asked[i - 1] = p1 at hp1 hprev2
          obtain ⟨o1, k1⟩ := p1
          walk_at "ev"
          rw [show (i : Int) - 1 = ((i - 1 : Nat) : Int) by with_reducible exact z3 (by assumption)]
          refine sub_listN (k := i - 1) (p := pr (o1, k1)) rfl hH (by with_reducible exact Nat.lt_of_le_of_lt (Nat.le_of_lt (by assumption)) (Nat.lt_of_le_of_lt (by assumption) (by decide))) (by rw [List.getElem?_map, hp1]; rfl) ?_
          rw [show pr (o1, k1) = .tup [.int (o1 : Int), .int (k1 : Int)] from rfl]
          walk_at "ev"
          refine sub_tupN (k := 0) (p := .int (o1 : Int)) rfl (by decide) rfl ?_
          walk_at "ev"
          refine ⟨⟨_, _, P.K 185 _ rfl, rfl⟩, s_branch P ?_⟩
          walk_at "ev"
          cases hbr : br o1 o M with
          | true =>
            refine ⟨fun q => (nomatch q), fun _ => ?_⟩
            refine ⟨fun q => (nomatch q), fun _ => EvTs_nilO ?_⟩
            refine ⟨fun q => (nomatch q), fun _ => ?_⟩
            walk_at "ev"
            refine ⟨(), fun c => ?_, (by walk_at "vle"), HF.Le.refl _⟩
            rcases c with c | ⟨z, c1, c2⟩
            · exact hk (by exact Int.ofNat_lt.mpr (by assumption))
            · rw [hprev2] at c1; (first | exact nsF c1 | exact snF c1 | obtain rfl := Option.some.inj c1 | cases c1); rw [hbr] at c2; (first | exact nsF c2 | exact snF c2 | obtain rfl := Option.some.inj c2 | cases c2)
          | false =>
            refine ⟨fun _ => ?_, fun q => (nomatch q)⟩
            walk_at "ev"
            refine ⟨fun _ => ?_, fun q => (nomatch q)⟩
            refine ⟨fun _ => ?_, fun q => (nomatch q)⟩
            walk_at "ev"
            refine ⟨H, HF.Le.refl _, ?_⟩
            rw [hfal (.inr ⟨o1, hprev2, hbr⟩)] at h
            exact h
        · have hi0 := of_decide_eq_false hi0
          refine ⟨fun q => (nomatch q), fun _ => EvTs_nilO ?_⟩
          refine ⟨fun q => (nomatch q), fun _ => ?_⟩
          walk_at "ev"
          refine ⟨(), fun c => ?_, (by walk_at "vle"), HF.Le.refl _⟩
          rcases c with c | ⟨z, c1, c2⟩
          · exact hk (by exact Int.ofNat_lt.mpr (by assumption))
          · unfold prevO at c1; rw [if_pos (by with_reducible exact z1 (by assumption))] at c1; (first | exact nsF c1 | exact snF c1 | obtain rfl := Option.some.inj c1 | cases c1)
    · rw [if_neg hc] at hS
      walk_at "ev"
      refine EvS_If ?_
      walk_at "ev"
      refine ⟨fun he => ?_, fun he => ?_⟩
      · have he : (o : Int) = M := eq_of_beq he
        have he : o = M := by exact Int.ofNat.inj (by assumption)
        rw [if_pos he] at hS
        walk_at "ev"
        refine ⟨H, HF.Le.refl _, ?_⟩
        rw [← hS] at h
        exact h
      · have he : ¬ (o : Int) = M := by simpa using he
        have he : ¬ o = M := by (intro _; with_reducible exact z9 (by assumption) (by assumption))
        rw [if_neg he] at hS
        walk_at "ev"
        refine ⟨(), ?_, (by walk_at "vle"), HF.Le.refl _⟩
        rw [hprev]; exact hS
  · have hi : asked.length ≤ i := by
      have hx' : (rangeL 0 (asked.length : Nat))[i]? = none := hx
      rw [rangeL_get] at hx'
      split at hx'
      · (first | exact nsF hx' | exact snF hx' | obtain rfl := Option.some.inj hx' | cases hx')
      · with_reducible exact cs2 (by assumption)
    rw [List.drop_of_length_le hi] at hS
    have hS : false = X := by rw [← hS]; rfl
    rw [← hS] at h
    walk_at "ev"
    exact ⟨H, HF.Le.refl _, h⟩
end
end
section
theorem TabOK.keep {H H' : HF} {P : Addr} {pos : Pos} {q : Str} (h : TabOK H P pos q) (k : ∀ b o, H b = some (.obj o) → H' b = some (.obj o)) : TabOK H' P pos q := by
  rcases h with ⟨ps, h1, r⟩ | ⟨c', oc, ps, h1, h2, h3, h4, h5⟩
  · exact .inl ⟨ps, k _ _ h1, r⟩
  · exact .inr ⟨c', oc, ps, k _ _ h1, h2, h3, k _ _ h4, h5⟩
theorem TabOK.set {H : HF} {P a : Addr} {pos : Pos} {q : Str} {x : AO} (h : TabOK H P pos q) (ha : ∀ o, H a ≠ some (.obj o)) : TabOK (H.set a x) P pos q := h.keep fun b o e => by
  have : b ≠ a := fun w => by obtain rfl := Eq.symm w; exact ha _ e
  rw [HF.set_other this]; exact e
theorem tab_ints {H : HF} {P : Addr} {pos : Pos} {q : Str} (h : TabOK H P pos q) : ∃ ps : Array Value, H P = some (.obj (PySem.W.tabObj ps)) ∧ TriplesOk ps.toList := by
  rcases h with ⟨ps, h1, h2, _⟩ | ⟨_, _, ps, h1, h2, _⟩
  · exact ⟨ps, h1, h2⟩
  · exact ⟨ps, h1, h2⟩
/-- another function's table -/
theorem TabOK.other {H H' : HF} {P P' : Addr} {pos pos' : Pos} {q q' : Str} (h : TabOK H P pos q) (h' : TabOK H P' pos' q') (hP : P ≠ P') (k : ∀ b z, b ≠ P' → H b = some z → H' b = some z) : TabOK H' P pos q := by
  obtain ⟨ps', i1, i2⟩ := tab_ints h'
  rcases h with ⟨ps, h1, r⟩ | ⟨c', oc, ps, h1, h2, h3, h4, ws, t, h5, h6⟩
  · exact .inl ⟨ps, k _ _ hP h1, r⟩
  · have hc : c' ≠ P' := fun w => by
      refine opq fun Gq hGq => ?_
      obtain rfl := Eq.symm w
      rw [i1] at h4
      (first | exact nsF h4 | exact snF h4 | obtain rfl := Option.some.inj h4 | cases h4)
      (first | exact nsF h5 | exact snF h5 | obtain rfl := Option.some.inj h5 | cases h5)
      refine hGq ?_
      rw [← Array.getElem?_toList] at h6
      cases e : ps'.toList with
      | nil => rw [e] at h6; (first | exact nsF h6 | exact snF h6 | obtain rfl := Option.some.inj h6 | cases h6)
      | cons x r =>
        rw [e] at i2 h6
        cases r with
        | nil => (first | exact nsF h6 | exact snF h6 | obtain rfl := Option.some.inj h6 | cases h6)
        | cons y r =>
          have hy : y = .str q t := by simpa using h6
          obtain rfl := Eq.symm hy
          cases x <;> (first | exact nsF i2 | exact snF i2 | obtain rfl := Option.some.inj i2 | cases i2)
    exact .inr ⟨c', oc, ps, k _ _ hP h1, h2, h3, k _ _ hc h4, ws, t, h5, h6⟩
structure SH (H0 : HF) (hl kn as nl dl : Addr) (od : Obj) (N : List Nat) (st : St2) (H : HF) : Prop where
  h1 : H hl = some (.list (st.heap.map ti))
  h2 : H kn = some (.list (ni st.known))
  h3 : H as = some (.list (st.asked.map pr))
  h4 : H nl = some (.list (ni N))
  h5 : H dl = some (.obj od)
  t1 : TabOK H 199 posA qA
  t2 : TabOK H 216 posS qS
  f1 : H0 hl = none
  f2 : H0 kn = none
  f3 : H0 as = none
  f4 : H0 nl ≠ none
  keep : ∀ b z, b ≠ 199 → b ≠ 216 → H0 b = some z → H b = some z
section
variable {H0 H H' : HF} {hl kn as nl dl : Addr} {od : Obj} {N : List Nat} {st : St2}
theorem SH.new (S : SH H0 hl kn as nl dl od N st H) {d : Addr} {x : AO} (hd : H d = none) : SH H0 hl kn as nl dl od N st (H.set d x) := by
  have k : ∀ b z, H b = some z → H.set d x b = some z := fun b z e => by rw [HF.set_other (fun w => by obtain rfl := Eq.symm w; rw [hd] at e; (first | exact nsF e | exact snF e | obtain rfl := Option.some.inj e | cases e))]; exact e
  exact ⟨k _ _ S.h1, k _ _ S.h2, k _ _ S.h3, k _ _ S.h4, k _ _ S.h5, S.t1.keep fun b o e => k _ _ e, S.t2.keep fun b o e => k _ _ e, S.f1, S.f2, S.f3, S.f4, fun b z a b' e => k _ _ (S.keep b z a b' e)⟩
theorem SH.upd1 (S : SH H0 hl kn as nl dl od N st H) {hp : List (List Int)} (n1 : kn ≠ hl) (n2 : as ≠ hl) : SH H0 hl kn as nl dl od N ⟨hp, st.known, st.asked⟩ (H.set hl (.list (hp.map ti))) :=
  have o : ∀ o, H hl ≠ some (.obj o) := fun o e => by rw [S.h1] at e; (first | exact nsF e | exact snF e | obtain rfl := Option.some.inj e | cases e)
  have kk : ∀ b z, b ≠ 199 → b ≠ 216 → H0 b = some z → (H.set hl (.list (hp.map ti))) b = some z := fun b z a b' e => by
    rw [HF.set_other (fun w => by obtain rfl := Eq.symm w; rw [S.f1] at e; (first | exact nsF e | exact snF e | obtain rfl := Option.some.inj e | cases e))]; exact S.keep b z a b' e
  ⟨HF.set_self .., by rw [HF.set_other n1]; exact S.h2, by rw [HF.set_other n2]; exact S.h3, by
    rw [HF.set_other (fun w => S.f4 (by rw [w]; exact S.f1))]; exact S.h4, by
    rw [HF.set_other (fun w => o _ (by rw [← w]; exact S.h5))]; exact S.h5, S.t1.set o, S.t2.set o, S.f1, S.f2, S.f3, S.f4, kk⟩
theorem SH.upd2 (S : SH H0 hl kn as nl dl od N st H) {k : List Nat} (n1 : hl ≠ kn) (n2 : as ≠ kn) : SH H0 hl kn as nl dl od N ⟨st.heap, k, st.asked⟩ (H.set kn (.list (ni k))) :=
  have o : ∀ o, H kn ≠ some (.obj o) := fun o e => by rw [S.h2] at e; (first | exact nsF e | exact snF e | obtain rfl := Option.some.inj e | cases e)
  ⟨by rw [HF.set_other n1]; exact S.h1, HF.set_self .., by rw [HF.set_other n2]; exact S.h3, by
    rw [HF.set_other (fun w => S.f4 (by rw [w]; exact S.f2))]; exact S.h4, by
    rw [HF.set_other (fun w => o _ (by rw [← w]; exact S.h5))]; exact S.h5, S.t1.set o, S.t2.set o, S.f1, S.f2, S.f3, S.f4, fun b z a b' e => by
    rw [HF.set_other (fun w => by obtain rfl := Eq.symm w; rw [S.f2] at e; (first | exact nsF e | exact snF e | obtain rfl := Option.some.inj e | cases e))]; exact S.keep b z a b' e⟩
theorem SH.upd3 (S : SH H0 hl kn as nl dl od N st H) {k : List (Nat × Nat)} (n1 : hl ≠ as) (n2 : kn ≠ as) : SH H0 hl kn as nl dl od N ⟨st.heap, st.known, k⟩ (H.set as (.list (k.map pr))) :=
  have o : ∀ o, H as ≠ some (.obj o) := fun o e => by rw [S.h3] at e; (first | exact nsF e | exact snF e | obtain rfl := Option.some.inj e | cases e)
  ⟨by rw [HF.set_other n1]; exact S.h1, by rw [HF.set_other n2]; exact S.h2, HF.set_self .., by
    rw [HF.set_other (fun w => S.f4 (by rw [w]; exact S.f3))]; exact S.h4, by
    rw [HF.set_other (fun w => o _ (by rw [← w]; exact S.h5))]; exact S.h5, S.t1.set o, S.t2.set o, S.f1, S.f2, S.f3, S.f4, fun b z a b' e => by
    rw [HF.set_other (fun w => by obtain rfl := Eq.symm w; rw [S.f3] at e; (first | exact nsF e | exact snF e | obtain rfl := Option.some.inj e | cases e))]; exact S.keep b z a b' e⟩
theorem not9 {xs : List PV} {a : Addr} (h : H a = some (.list xs)) (t : TabOK H 199 posA qA) : a ≠ 199 := fun w => by
  obtain rfl := Eq.symm w; obtain ⟨ps, e⟩ := t.at; rw [h] at e; (first | exact nsF e | exact snF e | obtain rfl := Option.some.inj e | cases e)
theorem SH.ans (S : SH H0 hl kn as nl dl od N st H) (k : ∀ b z, b ≠ 199 → H b = some z → H' b = some z) (t : TabOK H' 199 posA qA) (hd : dl ≠ 199) : SH H0 hl kn as nl dl od N st H' :=
  ⟨k _ _ (not9 S.h1 S.t1) S.h1, k _ _ (not9 S.h2 S.t1) S.h2, k _ _ (not9 S.h3 S.t1) S.h3, k _ _ (not9 S.h4 S.t1) S.h4, k _ _ hd S.h5, t, S.t2.other S.t1 (by decide) k, S.f1, S.f2, S.f3, S.f4, fun b z a b' e => k b z a (S.keep b z a b' e)⟩
end
theorem tell_len (t : Nat) : ∀ (R : List Nat) (h : List (List Int)) (K : List Nat), (R.foldl (tell1 t) (h, K)).1.length ≤ h.length + R.length ∧ (R.foldl (tell1 t) (h, K)).2.length ≤ K.length + R.length
  | [], h, K => by simp
  | x :: R, h, K => by
    rw [List.foldl_cons]
    unfold tell1
    split
    · have := tell_len t R h K
      simp only [List.length_cons]; unfold tell1 at this; exact ⟨Nat.le_succ_of_le this.1, Nat.le_succ_of_le this.2⟩
    · have := tell_len t R (hpush h (itm t x)) (K ++ [x])
      have e := (hpush_perm h (itm t x)).length_eq
      unfold tell1 at this
      simp only [List.length_cons, List.length_append, List.length_nil] at this e ⊢
      exact ⟨fa1 (Nat.le_of_eq e) this.1, fa1 (Nat.le_refl _) this.2⟩
theorem heap_le {N : List Nat} {few t M : Nat} {T : Nat → List Nat} {st : St2} (J : KJ N few t M T st) : st.known.length ≤ N.length ∧ st.heap.length ≤ N.length := by
  obtain ⟨U, u1, u2, u3⟩ := J.un
  have a := nodup_sub_len J.kn J.ks
  have b := nodup_sub_len u1 fun x hx => J.ks x ((u3 x).mp hx).1
  have c := u2.length_eq
  rw [List.length_map] at c
  with_reducible exact hl5 (by assumption) (by assumption) (by assumption)
end
section
noncomputable def TabsOn (H : HF) : Prop := (∃ ps : Array Value, H 199 = some (.obj (PySem.W.tabObj ps))) ∧ ∃ ps : Array Value, H 216 = some (.obj (PySem.W.tabObj ps))
section
variable {g : G} {n : Nat} {H : HF} {Q : PV → HF → Prop}
theorem s_search (P : Prog g) {nl dl : Addr} {od : Obj} {f : Int → Option Value} {N : List Nat} {turnOf : Nat → Nat} {s t few M : Nat} {Tt rw_ : Nat → List Nat} (hrow : ∀ a, rw_ a = rowOf N (turnOf a)) (hTt : ∀ a, Tt a = tblOf a few (rw_ a)) (X : Net N few t M Tt rw_)
    (hN8 : N.length = 8) (hNv : ∀ x ∈ N, x < 262144) (hs : s ∈ N) (h1 : 1 ≤ few) (h3 : few ≤ 3) (hnl : H nl = some (.list (ni N))) (hdl : H dl = some (.obj od)) (hDM : DM od f) (hfT : ∀ a ∈ N, ∃ tk, f (a : Nat) = some (.int (turnOf a : Nat) tk)) (hd9 : dl ≠ 199)
    (hT1 : TabOK H 199 posA qA) (hT2 : TabOK H 216 posS qS)
    (h : ∀ F A asked R H', H' F = some (.list (ni R)) → H' A = some (.list (asked.map pr)) → asked.length ≤ 8 → nar M none asked = true → Nsm few t N R → (∀ b z, b ≠ 199 → b ≠ 216 → H b = some z → H' b = some z) → TabsOn H' → Q (.tup [.ref F, .ref A]) H') :
    Calls g (n + 6) (.ref 221) [.ref nl, .ref dl, .int (s : Nat), .int (t : Nat), .int (few : Nat)] [] H Q := by
  have gq0 := Prog.g_heappop P
  have gq1 := Prog.g_heappush P
  have gq2 := Prog.g_law_answer P
  have gq3 := Prog.g_law_nearer P
  have gq4 := Prog.g_law_table P
  have gq5 := Prog.g_law_told P
  have gq6 := Prog.g_nsmallest P
  refine calls_fnX (P.K 221 _ rfl) rfl rfl rfl (by kernel_rfl) rfl rfl rfl ⟨_, _, _, rfl, P.K _ _ rfl, rfl, rfl⟩ (binds5 (x := Str.ofString "nodes") (y := Str.ofString "turns") (z := Str.ofString "start") (w := Str.ofString "target") (v := Str.ofString "few") P.K fun _ _ _ _ _ _ => by kernel_rfl) ?_
  walk_at "ev1"
  refine EvS_AssignSwap3 (x := Str.ofString "heap") (y := Str.ofString "known") (z := Str.ofString "asked") (fun env he => by (first | exact nsF env | exact snF env | obtain rfl := Option.some.inj env | cases env); (first | exact nsF he | exact snF he | obtain rfl := Option.some.inj he | cases he); kernel_rfl) (fun env he => by (first | exact nsF env | exact snF env | obtain rfl := Option.some.inj env | cases env); (first | exact nsF he | exact snF he | obtain rfl := Option.some.inj he | cases he); kernel_rfl) (by kernel_rfl) (by kernel_rfl) (by kernel_rfl) ?_
  walk_at "ev"
  refine bin_xorN ?_
  walk_at "ev"
  refine ⟨by simp, ?_⟩
  walk_at "ev"
  refine ⟨by simp, fun hl hhl => ?_⟩
  walk_at "ev"
  refine ⟨by simp, fun kn hkn => ?_⟩
  walk_at "ev"
  refine ⟨by simp, fun as has => ?_⟩
  walk_at "ev"
  refine ⟨by simp, _, _, _, rfl, ?_⟩
  obtain ⟨hkl, hkn⟩ := HF.set_none hkn
  obtain ⟨hak, has⟩ := HF.set_none has
  obtain ⟨hal, has⟩ := HF.set_none has
  have nf : ∀ {b}, H b = none → ∀ {z}, H b ≠ some z := fun e z q => by rw [e] at q; (first | exact nsF q | exact snF q | obtain rfl := Option.some.inj q | cases q)
  have S0 : SH H hl kn as nl dl od N ⟨[itm t s], [s], []⟩ (((H.set hl (.list [.tup [.int (s ^^^ t : Nat), .int (s : Nat)]])).set kn (.list [.int (s : Nat)])).set as (.list [])) := by
    have k : ∀ b z, H b = some z → (((H.set hl (.list [.tup [.int (s ^^^ t : Nat), .int (s : Nat)]])).set kn (.list [.int (s : Nat)])).set as (.list [])) b = some z := fun b z e => by
      rw [HF.set_other (fun w => by obtain rfl := Eq.symm w; rw [has] at e; (first | exact nsF e | exact snF e | obtain rfl := Option.some.inj e | cases e)), HF.set_other (fun w => by obtain rfl := Eq.symm w; rw [hkn] at e; (first | exact nsF e | exact snF e | obtain rfl := Option.some.inj e | cases e)), HF.set_other (fun w => by obtain rfl := Eq.symm w; rw [hhl] at e; (first | exact nsF e | exact snF e | obtain rfl := Option.some.inj e | cases e))]; exact e
    exact ⟨by rw [HF.set_other (Ne.symm hal), HF.set_other (Ne.symm hkl), HF.set_self]; rfl, by rw [HF.set_other (Ne.symm hak), HF.set_self]; rfl, HF.set_self .., k _ _ hnl, k _ _ hdl, hT1.keep fun b o e => k _ _ e, hT2.keep fun b o e => k _ _ e, hhl, hkn, has, (by rw [hnl]; simp), fun b z _ _ e => k b z e⟩
  walk_at "ev"
  refine EvS_cut (σ := St2 × HF) (fun _ => [(Str.ofString "heap", .ref hl), (Str.ofString "known", .ref kn), (Str.ofString "asked", .ref as), (Str.ofString "nodes", .ref nl), (Str.ofString "turns", .ref dl), (Str.ofString "target", .int (t : Nat)), (Str.ofString "few", .int (few : Nat))]) (fun st => st.2)
    (fun st => SH H hl kn as nl dl od N st.1 st.2 ∧ KJ N few t M Tt st.1 ∧ st.1.asked.length ≤ 8 ∧ (st.1.heap = [] ∨ few ≤ nearN t st.1.known ((at' st.1.heap 0).getD 0 0).toNat)) ?_ ?_
  rotate_left
  · -- the end
    rintro ⟨st, H2⟩ ⟨S2, J, hasl, hex⟩
    dsimp only at S2 J hasl hex ⊢
    obtain ⟨kl, hll⟩ := heap_le J
    obtain ⟨hnar, hnsm⟩ := J.stop X (by with_reducible exact e84 (by assumption) (by assumption)) hex
    walk_at "ev1"
    walk_at "ev1"
    walk_at "ev1"
    refine EvL_cons rfl ?_
    refine EvE_CallKey (Str.ofString "_law_search") 220 216 t (by kernel_rfl) (fun _ => rfl) (fun fd v e1 e2 e3 => by (first | exact nsF fd | exact snF fd | obtain rfl := Option.some.inj fd | cases fd); (first | exact nsF e1 | exact snF e1 | obtain rfl := Option.some.inj e1 | cases e1); (first | exact nsF e2 | exact snF e2 | obtain rfl := Option.some.inj e2 | cases e2); (first | exact nsF e3 | exact snF e3 | obtain rfl := Option.some.inj e3 | cases e3); rfl) (by kernel_rfl) (by kernel_rfl) (by kernel_rfl) rfl rfl ⟨_, _, _, _, _, _, _, _, _, P.K 220 _ rfl, rfl, rfl, rfl, rfl, rfl, rfl, rfl, rfl, by decide⟩ ⟨_, _, _, _, rfl, P.K 220 _ rfl, rfl, rfl⟩ (by kernel_rfl) (by walk_at "lk") ?_
    walk_at "ev"
    refine ⟨⟨_, _, P.K 83 _ rfl, rfl⟩, S2.t2, fun g' fa H3 c' oc O K hle hTA => ?_⟩
    refine opq fun Gq hGq => ?_
    obtain ⟨pt, hpt⟩ := S2.t2.at
    have ne6 : ∀ {a xs}, H2 a = some (.list xs) → a ≠ 216 := fun e w => by obtain rfl := Eq.symm w; rw [e] at hpt; (first | exact nsF hpt | exact snF hpt | obtain rfl := Option.some.inj hpt | cases hpt)
    have hc6 := tab_ne hTA
    obtain ⟨ps, t1, t2, t3, t4, t5⟩ := id hTA
    refine hGq ?_
    have nec : ∀ {a xs}, H2 a = some (.list xs) → a ≠ c' := fun {a xs} e w => by
      have := hle _ _ (ne6 e) e
      rw [w, t4] at this; (first | exact nsF this | exact snF this | obtain rfl := Option.some.inj this | cases this)
    have keep : ∀ {a xs}, H2 a = some (.list xs) → (H3.del c') a = some (.list xs) := fun {a xs} e => by rw [HF.del_other (nec e)]; exact hle _ _ (ne6 e) e
    refine s_nsm (n := n + 1) (P.over O) (t := t) K J.kn h1 h3 (by with_reducible exact Nat.lt_of_le_of_lt (by assumption) (Nat.lt_of_le_of_lt (Nat.le_of_eq (by assumption)) (by decide))) (keep S2.h2) fun R d hR hd hcd => ?_
    have hdc : d ≠ c' := fun q => by obtain rfl := Eq.symm q; rw [HF.set_self] at hcd; (first | exact nsF hcd | exact snF hcd | obtain rfl := Option.some.inj hcd | cases hcd)
    have hdl2 : ∀ {a xs}, H2 a = some (.list xs) → a ≠ d := fun {a xs} e w => by have := keep e; rw [w, hd] at this; (first | exact nsF this | exact snF this | obtain rfl := Option.some.inj this | cases this)
    walk_at "ev"
    refine ⟨by simp, ?_⟩
    have k2 : ∀ b z, b ≠ 216 → H2 b = some z → (((H3.del c').set d (.list (ni R))).set c' (.obj oc)) b = some z := fun b z hb e => by
      have e3 := hle b z hb e
      by_cases hbc : b = c'
      · obtain rfl := Eq.symm hbc; rw [HF.set_self, ← t4]; exact e3
      · have hbd : b ≠ d := fun q => by obtain rfl := Eq.symm q; rw [HF.del_other hbc, e3] at hd; (first | exact nsF hd | exact snF hd | obtain rfl := Option.some.inj hd | cases hd)
        rw [HF.set_other hbc, HF.set_other hbd, HF.del_other hbc]; exact e3
    walk_at "ev"
    exact ⟨_, HF.Le.refl _, h d as st.asked R _ (by rw [HF.set_other hdc, HF.set_self]) (k2 _ _ (ne6 S2.h3) S2.h3) hasl hnar (hnsm R hR) (fun b z h9 h6 e => k2 b z h6 (S2.keep b z h9 h6 e)) ⟨S2.t1.at.imp fun _ e => k2 _ _ (by decide) e, ps, (by
      have h6d : (216 : Addr) ≠ d := fun q => by obtain rfl := Eq.symm q; rw [HF.del_other (Ne.symm hc6), t1] at hd; (first | exact nsF hd | exact snF hd | obtain rfl := Option.some.inj hd | cases hd)
      rw [HF.set_other (Ne.symm hc6), HF.set_other h6d, HF.del_other (Ne.symm hc6)]; exact t1)⟩⟩
  refine EvS_While (σ := St2 × HF) (fun _ => [(Str.ofString "heap", .ref hl), (Str.ofString "known", .ref kn), (Str.ofString "asked", .ref as), (Str.ofString "nodes", .ref nl), (Str.ofString "turns", .ref dl), (Str.ofString "target", .int (t : Nat)), (Str.ofString "few", .int (few : Nat))]) (fun st => st.2)
    (fun st => SH H hl kn as nl dl od N st.1 st.2 ∧ KJ N few t M Tt st.1 ∧ (st.1.asked.map (·.1)).Nodup) (fun st => 9 - st.1.asked.length) ⟨(⟨[itm t s], [s], []⟩, _), ⟨S0, KJ.init hs, List.nodup_nil⟩, (by walk_at "vle"), HF.Le.refl _⟩ ?_
  clear S0
  rintro ⟨st, H1⟩ ⟨S1, J, hnd⟩
  dsimp only at S1 J hnd ⊢
  generalize hCU : Cut _ _ _ _ = CU; revert CU; refine bar ?_; intro CU hCU
  generalize hTE : TurnEnd _ _ _ _ = TE; revert TE; refine bar ?_; intro TE hTE
  obtain ⟨kl, hll⟩ := heap_le J
  have hasl : st.asked.length ≤ 8 := by
    have := nodup_sub_len hnd fun x hx => J.ks x (J.os x hx)
    rw [List.length_map] at this; with_reducible exact Nat.le_trans (by assumption) (Nat.le_of_eq (by assumption))
  walk_at "ev"
  refine ⟨by simp, fun e he => ?_⟩
  have S2 := S1.new (x := .list []) he
  refine cmp_ne_tis (xs := st.heap) (ys := []) S2.h1 (HF.set_self ..) ?_
  walk_at "ev"
  refine ⟨fun hne => ?_, fun hne => ?_⟩
  rotate_left
  · have hne : st.heap = [] := by simpa using hne
    refine ⟨fun q => (nomatch q), fun _ => ?_⟩
    walk_at "ev"
    exact ⟨(st, _), ⟨S2, J, hasl, .inl hne⟩, (by walk_at "vle"), HF.Le.refl _⟩
  have hne : st.heap ≠ [] := by simpa using hne
  refine opq fun Gq hGq => ?_
  obtain ⟨p, hp, hpk, hpa, hpm, V, v1, v2, v3⟩ := J.popd hne
  obtain ⟨hhp, _⟩ := pop_hp J.l2 J.hp hne
  refine hGq ?_
  have hpr := pop_perm hne
  have hlr : Lens 2 (popr st.heap) := fun x hx => J.l2 x (hpr.mem_iff.mp (by simp [hx]))
  have hpN := J.ks p hpk
  have hlen := List.length_pos_iff.mpr hne
  have htop : st.heap.getD 0 [] = itm t p := by rw [← hp, popm_at hne]; rfl
  walk_at "ev"
  refine sub_listN (k := 0) rfl S2.h1 (by decide) (getD_ti hlen) ?_
  rw [htop, show ti (itm t p) = .tup [.int ((p ^^^ t : Nat) : Int), .int (p : Int)] from rfl]
  walk_at "ev"
  refine sub_tupN (k := 0) (p := .int ((p ^^^ t : Nat) : Int)) rfl (by decide) rfl ?_
  walk_at "ev"
  refine ⟨⟨_, _, P.K 214 _ rfl, rfl⟩, s_nearer P S2.h2 (by with_reducible exact Nat.le_trans (by assumption) (Nat.le_trans (Nat.le_of_eq (by assumption)) (by decide))) ?_⟩
  walk_at "ev"
  refine ⟨fun hf => ?_, fun hf => ?_⟩
  rotate_left
  · have hf := of_decide_eq_false hf
    refine ⟨fun q => (nomatch q), fun _ => ?_⟩
    walk_at "ev"
    refine ⟨(st, _), ⟨S2, J, hasl, .inr ?_⟩, (by walk_at "vle"), HF.Le.refl _⟩
    dsimp only
    rw [show at' st.heap 0 = itm t p from htop]
    have : ((itm t p).getD 0 0).toNat = p ^^^ t := by simp [itm]
    rw [this]; with_reducible exact Nat.le_of_not_lt (mt Int.ofNat_lt.mpr (by assumption))
  have hf := of_decide_eq_true hf
  walk_at "ev"
  refine ⟨fun _ => ?_, fun q => (nomatch q)⟩
  walk_at "ev"
  have hsl := split_last hne
  have n1 : kn ≠ hl := hkl
  have n2 : as ≠ hl := hal
  have n3 : as ≠ kn := hak
  refine ⟨⟨_, _, P.K 35 _ rfl, rfl⟩, s_heappop (n := n + 2) (k := 2) (xs := st.heap.dropLast) (l := st.heap.getLastD []) P (by rw [← hsl]; exact S2.h1) (by simp; with_reducible exact e85 (by assumption) (by assumption)) (by rw [← hsl]; exact J.l2) ?_⟩
  rw [show (hpop st.heap.dropLast (st.heap.getLastD [])).1 = popm st.heap from rfl, show (hpop st.heap.dropLast (st.heap.getLastD [])).2 = popr st.heap from rfl, hp, show ti (itm t p) = .tup [.int ((p ^^^ t : Nat) : Int), .int (p : Int)] from rfl]
  have S3 := S2.upd1 (hp := popr st.heap) n1 n2
  walk_at "ev"
  refine ⟨as, _, rfl, S3.h3, ?_⟩
  walk_at "ev"
  refine ⟨⟨_, _, P.K 214 _ rfl, rfl⟩, s_nearer P S3.h2 (show st.known.length ≤ 1000 by with_reducible exact Nat.le_trans (by assumption) (Nat.le_trans (Nat.le_of_eq (by assumption)) (by decide))) ?_⟩
  walk_at "ev"
  refine ⟨by simp, ?_⟩
  walk_at "ev"
  refine calls_append S3.h3 (by simp; with_reducible exact Nat.lt_of_le_of_lt (by assumption) (by decide)) ?_
  have S4 := S3.upd3 (k := st.asked ++ [(p, nearN t st.known (p ^^^ t))]) (Ne.symm n2) (Ne.symm n3)
  rw [show (st.asked.map pr ++ [PV.tup [.int (p : Nat), .int (nearN t st.known (p ^^^ t) : Nat)]]) = (st.asked ++ [(p, nearN t st.known (p ^^^ t))]).map pr by rw [List.map_append]; rfl]
  walk_at "ev"
  obtain ⟨tk, hftk⟩ := hfT p hpN
  refine sub_dict rfl S4.h5 hDM hftk ?_
  walk_at "ev"
  refine ⟨⟨_, _, P.K 190 _ rfl, rfl⟩, s_table (n := n + 3) P S4.h4 (by with_reducible exact Nat.le_trans (Nat.le_of_eq (by assumption)) (by decide)) fun tb htb => ?_⟩
  have S5 := S4.new (x := .list (ni (tblOf p few (rowOf N (turnOf p))))) htb
  have hTp : tblOf p few (rowOf N (turnOf p)) = Tt p := by rw [hTt, hrow]
  rw [hTp] at S5 ⊢
  have hTb := X.tb p hpN
  have hTsub : ∀ x ∈ Tt p, x ∈ N := fun x hx => (X.rw_ p hpN).mem_iff.mp (hTb.sub x hx).1
  have hTl : (Tt p).length ≤ 8 := by
    have := nodup_sub_len hTb.nd hTsub
    with_reducible exact Nat.le_trans (by assumption) (Nat.le_of_eq (by assumption))
  walk_at "ev"
  refine EvS_ForS (σ := (List (List Int) × List Nat) × HF) (fun _ _ => [(Str.ofString "heap", .ref hl), (Str.ofString "known", .ref kn), (Str.ofString "asked", .ref as), (Str.ofString "nodes", .ref nl), (Str.ofString "turns", .ref dl), (Str.ofString "target", .int (t : Nat)), (Str.ofString "few", .int (few : Nat))]) (fun _ st2 => st2.2)
    (fun src i st2 => ∃ R c, src = .list c (ni R) ∧ R.length ≤ 8 ∧ Nsm few t (Tt p) R ∧ st2.1 = (R.take i).foldl (tell1 t) (popr st.heap, st.known) ∧ st2.2 c = some (.list (ni R)) ∧ c ≠ hl ∧ c ≠ kn ∧ SH H hl kn as nl dl od N ⟨st2.1.1, st2.1.2, st.asked ++ [(p, nearN t st.known (p ^^^ t))]⟩ st2.2) rfl ?_
  walk_at "ev"
  refine ⟨⟨_, _, P.K 202 _ rfl, rfl⟩, s_answer P (l := tb) (t := t) (few := few) (ns := Tt p) hTb.nd h1 h3 (by with_reducible exact Nat.lt_of_le_of_lt (by assumption) (by decide)) (fun x hx => hNv x (hTsub x hx)) (HF.set_self ..) S5.t1 fun R H6 hR hk6 hT6 => ?_⟩
  have S6 := S5.ans hk6 hT6 hd9
  have hRl : R.length ≤ 8 := by rw [hR.len]; exact Nat.le_trans (Nat.min_le_right _ _) hTl
  walk_at "ev"
  refine ⟨⟨_, _, P.K 209 _ rfl, rfl⟩, s_told (n := n + 1) P (by with_reducible exact Nat.le_trans (by assumption) (by decide)) (fun x hx => hNv x (hTsub x (hR.sub x hx))) fun c hc => ?_⟩
  have S7 := S6.new (x := .list (ni R)) hc
  refine ⟨.list c (ni R), rfl, HF.set_self .., ⟨((popr st.heap, st.known), _), ⟨R, c, rfl, hRl, hR, rfl, HF.set_self .., fun w => (by rw [w, S6.h1] at hc; cases hc), fun w => (by rw [w, S6.h2] at hc; cases hc), S7⟩, (by walk_at "vle"), HF.Le.refl _⟩, ?_⟩
  clear S7 S6 hc hk6 hT6 S5 S4 S3 htb
  rintro i ⟨⟨h2, K2⟩, H8⟩ ⟨R', c', hsrc, hRl', hR', hfold, hc8, nc1, nc2, S8⟩
  injection hsrc with hcc hRR
  have hRR : R' = R := by
    have := congrArg List.length hRR
    apply List.ext_getElem
    · simpa [ni] using this.symm
    · intro i h1 h2
      have h3 : (ni R')[i]? = (ni R)[i]? := by rw [hRR]
      rw [ni, ni, List.getElem?_map, List.getElem?_map, List.getElem?_eq_getElem h1, List.getElem?_eq_getElem h2] at h3
      injection h3 with h3; injection h3 with h3; exact Int.ofNat.inj h3
  subst hcc; subst hRR
  dsimp only at hfold hc8 S8 ⊢
  refine opq fun Gq hGq => ?_
  obtain ⟨tl1, tl2⟩ := tell_len t (R'.take i) (popr st.heap) st.known
  have hprl := popr_len hne
  obtain ⟨A, _, _, _, hl2, _⟩ := tell_ok (t := t) (R'.take i) (popr st.heap) st.known V v2 hhp hlr fun x hx => ((v3 x).mp hx).1
  refine hGq ?_
  rw [← hfold] at tl1 tl2 hl2
  dsimp only at tl1 tl2 hl2
  have htl : (R'.take i).length ≤ 8 := by rw [List.length_take]; with_reducible exact mi1 (by assumption)
  refine ⟨hc8, fun x hx => ?_, fun hx => ?_⟩
  · obtain ⟨o, ho, rfl⟩ := ni_get hx
    generalize hTE : TurnEnd _ _ _ _ = TE; revert TE; refine bar ?_; intro TE hTE
    have htk : (R'.take (i + 1)).foldl (tell1 t) (popr st.heap, st.known) = tell1 t (h2, K2) o := by rw [take_succ_of ho, List.foldl_append, ← hfold]; rfl
    have hcon : ((K2.map fun (x : Nat) => (x : Int)).contains ((o : Nat) : Int)) = decide (o ∈ K2) := by
      rw [List.contains_eq_mem]
      exact decide_eq_decide.mpr ⟨fun q => by
        obtain ⟨y, h1, h2⟩ := List.mem_map.mp q
        have : y = o := by exact Int.ofNat.inj (by assumption)
        rw [← this]; exact h1, fun q => List.mem_map.mpr ⟨_, q, rfl⟩⟩
    walk_at "ev"
    refine EvS_If ?_
    walk_at "ev"
    refine cmp_notin (ns := K2.map fun (x : Nat) => (x : Int)) (by rw [← ni_eq]; exact S8.h2) ?_
    rw [hcon]
    walk_at "ev"
    refine ⟨fun hb => ?_, fun hb => ?_⟩
    · have hb : o ∉ K2 := by simpa using hb
      walk_at "ev"
      refine ⟨kn, _, rfl, S8.h2, ?_⟩
      walk_at "ev"
      refine calls_append S8.h2 (by rw [ni_length]; show K2.length < 100000; exact e88 hN8 kl tl2 htl) ?_
      have S9 := S8.upd2 (k := K2 ++ [o]) (Ne.symm n1) n3
      rw [show ni K2 ++ [PV.int (o : Nat)] = ni (K2 ++ [o]) by rw [ni_append]; rfl]
      walk_at "ev"
      refine bin_xorN ?_
      walk_at "ev"
      refine ⟨by simp, ?_⟩
      walk_at "ev"
      refine ⟨⟨_, _, P.K 28 _ rfl, rfl⟩, s_heappush (n := n + 3) (k := 2) (x := itm t o) P S9.h1 (show h2.length < 40000 by with_reducible exact e89 (by assumption) (by assumption) (by assumption) (by assumption) (by assumption)) hl2 rfl ?_⟩
      have S10 := S9.upd1 (hp := hpush h2 (itm t o)) n1 n2
      walk_at "ev"
      refine ⟨((hpush h2 (itm t o), K2 ++ [o]), _), ⟨R', c, rfl, hRl', hR', ?_, ?_, nc1, nc2, S10⟩, (by walk_at "vle"), HF.Le.refl _⟩
      · rw [htk]; unfold tell1; rw [if_neg hb]
      · exact (HF.set_other nc1).trans ((HF.set_other nc2).trans hc8)
    · have hb : o ∈ K2 := by simpa using hb
      walk_at "ev"
      refine ⟨((h2, K2), H8), ⟨R', c, rfl, hRl', hR', ?_, hc8, nc1, nc2, S8⟩, (by walk_at "vle"), HF.Le.refl _⟩
      rw [htk]; unfold tell1; rw [if_pos hb]
  · have hi := ni_get_none hx
    rw [List.take_of_length_le hi] at hfold
    have hstep : stepQ t st R' = ⟨h2, K2, st.asked ++ [(p, nearN t st.known (p ^^^ t))]⟩ := by
      unfold stepQ
      rw [← hfold, hp]
      simp [itm]
    have J2 := J.step X hne (R := R') (by rw [hp]; exact hR')
    rw [hstep] at J2
    walk_at "ev"
    refine ⟨(⟨h2, K2, st.asked ++ [(p, nearN t st.known (p ^^^ t))]⟩, H8), ⟨⟨S8, J2, ?_⟩, ?_⟩, (by walk_at "vle"), HF.Le.refl _⟩
    · dsimp only
      rw [List.map_append, List.nodup_append]
      exact ⟨hnd, by simp, fun a ha b hb e => by
        have : b = p := by simpa using hb
        obtain rfl := Eq.symm this; obtain rfl := Eq.symm e; exact hpa ha⟩
    · dsimp only
      rw [List.length_append, List.length_singleton]; with_reducible exact ns5 (by assumption)
end
end
section
theorem EvSs.weak {c : Cx} {e : List Stmt} {m m' : Vars} {H H' : HF} {Q : Fl → Vars → HF → Prop} (km : Vars.Le m' m) (k : HF.Le H' H) (h : EvSs c e m' H' Q) : EvSs c e m H Q := EvM.weak km k h
noncomputable def drawnOf (ns : List Int) : List Int := ns.take 2 ++ List.replicate (2 - (ns.take 2).length) 0
theorem drawn_len (ns : List Int) : (drawnOf ns).length = 2 := by
  unfold drawnOf
  rw [List.length_append, List.length_replicate, List.length_take]
  with_reducible exact mi6 _
noncomputable def roundsOf (ns : List Int) : List Int := (ns.drop 9).take 8 ++ List.replicate 8 0
theorem rounds_len (ns : List Int) : 8 ≤ (roundsOf ns).length := by
  unfold roundsOf
  rw [List.length_append, List.length_replicate]; with_reducible exact Nat.le_add_left _ _
noncomputable def fewOf (ns : List Int) : Nat := ((((drawnOf ns).getD 0 0 + 1).fmod 3) + 1).toNat
noncomputable def tgtOf (ns : List Int) : Nat := nat18 ((((drawnOf ns).getD 0 0).fdiv 3) + 36)
noncomputable def trOf (ns : List Int) (i : Nat) : Nat := (((roundsOf ns).getD i 0).fmod 8).toNat
theorem few_eq (ns : List Int) : (((drawnOf ns).getD 0 0 + 1).fmod 3) + 1 = ((fewOf ns : Nat) : Int) ∧ 1 ≤ fewOf ns ∧ fewOf ns ≤ 3 := by
  have h1 := Int.fmod_nonneg_of_pos ((drawnOf ns).getD 0 0 + 1) (b := 3) (by decide)
  have h2 := Int.fmod_lt_of_pos ((drawnOf ns).getD 0 0 + 1) (b := 3) (by decide)
  unfold fewOf; exact fm2 h1 h2
theorem tr_eq (ns : List Int) (i : Nat) : ((roundsOf ns).getD i 0).fmod 8 = ((trOf ns i : Nat) : Int) := by
  have h1 := Int.fmod_nonneg_of_pos ((roundsOf ns).getD i 0) (b := 8) (by decide)
  unfold trOf; with_reducible exact ix2 (by assumption)
theorem flat_repI (k : Nat) (x : Int) : (List.replicate k [PV.int x]).flatten = (List.replicate k x).map PV.int := by
  induction k with
  | zero => rfl
  | succ k ih => rw [List.replicate_succ, List.flatten_cons, ih]; rfl
theorem slice_hi {ns : List Int} {hi : Nat} : (((ns.map PV.int).drop ((none : Option Nat).getD 0)).take (min ((some hi).getD (ns.map PV.int).length) (ns.map PV.int).length - (none : Option Nat).getD 0)) = (ns.take hi).map PV.int := by
  simp only [Option.getD_none, Option.getD_some, List.drop_zero, Nat.sub_zero, List.length_map, ← List.map_take]
  congr 1
  rcases Nat.le_total hi ns.length with q | q
  · rw [Nat.min_eq_left q]
  · rw [Nat.min_eq_right q, List.take_length, List.take_of_length_le q]
theorem getI {l : List Int} {i : Nat} (h : i < l.length) : (l.map PV.int)[i]? = some (.int (l.getD i 0)) := by simp [h]
noncomputable def dueP (t : Nat) : PV → Option PV
  | .int x => some (.tup [.int ((x.toNat ^^^ t : Nat) : Int), .int x])
  | _ => none
theorem due_eq (t : Nat) : ∀ N : List Nat, (ni N).filterMap (dueP t) = (N.map (itm t)).map ti
  | [] => rfl
  | x :: N => by
    have ih := due_eq t N
    show List.filterMap (dueP t) (.int (x : Int) :: ni N) = _
    rw [List.filterMap_cons]
    show PV.tup [.int ((x ^^^ t : Nat) : Int), .int (x : Int)] :: List.filterMap (dueP t) (ni N) = _
    rw [ih]; rfl
noncomputable def secP : PV → Option PV
  | .tup [_, e] => some e
  | _ => none
theorem sec_eq (t : Nat) : ∀ N : List Nat, ((N.map (itm t)).map ti).filterMap secP = ni N
  | [] => rfl
  | x :: N => by
    have ih := sec_eq t N
    show List.filterMap secP (ti (itm t x) :: (N.map (itm t)).map ti) = _
    rw [List.filterMap_cons]
    show PV.int (x : Int) :: List.filterMap secP ((N.map (itm t)).map ti) = _
    rw [ih]; rfl
theorem row_perm (N : List Nat) (k : Nat) : (rowOf N k).Perm N := by
  unfold rowOf
  have := List.perm_append_comm (l₁ := N.drop k) (l₂ := N.take k)
  rwa [List.take_append_drop] at this
/-- the sorted row of pairs -/
theorem sorted_due {t : Nat} {N : List Nat} {ys : List (List Int)} (nd : N.Nodup) (p : ys.Perm (N.map (itm t))) (o : ys.Pairwise fun x y => lexLt x y = true) : ∃ L : List Nat, ys = L.map (itm t) ∧ L.Perm N ∧ Asc t L := by
  have sh : ∀ y ∈ ys, ∃ x : Nat, y = itm t x := fun y hy => by
    obtain ⟨x, _, e⟩ := List.mem_map.mp (p.mem_iff.mp hy)
    exact ⟨x, e.symm⟩
  have e1 : ys = (ys.map fun y => (y.getD 1 0).toNat).map (itm t) := by
    rw [List.map_map]
    conv => lhs; rw [← List.map_id ys]
    refine List.map_congr_left fun y hy => ?_
    obtain ⟨x, rfl⟩ := sh y hy
    simp [itm]
  have p2 : (ys.map fun y => (y.getD 1 0).toNat).Perm N := by
    have := p.map fun y => (y.getD 1 0).toNat
    rw [List.map_map] at this
    have e : (List.map ((fun y : List Int => (y.getD 1 0).toNat) ∘ itm t) N) = N := by
      conv => rhs; rw [← List.map_id N]
      refine List.map_congr_left fun x _ => ?_
      simp [itm]
    rwa [e] at this
  refine ⟨_, e1, p2, ?_⟩
  have nd2 := p2.nodup_iff.mpr nd
  refine List.pairwise_map.mpr (((List.pairwise_map.mp nd2).and o).imp_of_mem fun {a b} ha hb h => ?_)
  refine opq fun Gq hGq => ?_
  obtain ⟨x, rfl⟩ := sh a ha
  obtain ⟨y, rfl⟩ := sh b hb
  refine hGq ?_
  have h1 : x ≠ y := by simpa [itm] using h.1
  have h2 : leq (itm t x) (itm t y) := lt_leq (k := 2) rfl rfl h.2
  have h3 := leq_fst h2
  show ((itm t x).getD 1 0).toNat ^^^ t < ((itm t y).getD 1 0).toNat ^^^ t
  simp [itm]
  rcases Nat.lt_or_ge (x ^^^ t) (y ^^^ t) with z | z
  · exact z
  · exact absurd (xor_inj (Nat.le_antisymm h3 z)) h1
section
variable {g : G} {n : Nat} {H : HF}
theorem s_law (P : Prog g) {a : Addr} {vs : Array Value} {ns : List Int} (hL : g.h₀.IsList a vs) (hD : DenL g.h₀ (ns.map .int) vs.toList) (hn : ns.length ≤ 100) (hT1 : TabOK H 199 posA qA) (hT2 : TabOK H 216 posS qS) :
    Calls g (n + 7) (.ref 233) [.ref a] [] H (fun v H' => v = .bool true ∧ TabsOn H') := by
  have gq0 := Prog.g_law_narrows P
  have gq1 := Prog.g_law_nodes P
  have gq2 := Prog.g_law_search P
  have gq3 := Prog.g_len P
  have gq4 := Prog.g_range P
  have gq5 := Prog.g_sorted P
  refine calls_fnX (P.K 233 _ rfl) rfl rfl rfl (by kernel_rfl) rfl rfl rfl ⟨_, _, _, rfl, P.K _ _ rfl, rfl, rfl⟩ (binds1 (x := Str.ofString "script") P.K fun _ _ => by kernel_rfl) ?_
  refine opq fun Gq hGq => ?_
  obtain ⟨N1, N8, Nv⟩ := nodes_ok ns
  obtain ⟨fe, f1, f3⟩ := few_eq ns
  refine hGq ?_
  have hdl := drawn_len ns
  have hrl := rounds_len ns
  walk_at "ev"
  refine sli_base (lo := none) (hi := some 2) hL hD (by simp; with_reducible exact Nat.le_trans (by assumption) (by decide)) fun b hb => ?_
  rw [slice_hi]
  walk_at "ev"
  refine ⟨by simp, fun c hc => ?_⟩
  walk_at "ev"
  refine sli_base (lo := none) (hi := some 2) hL hD (by simp; with_reducible exact Nat.le_trans (by assumption) (by decide)) fun d hd => ?_
  rw [slice_hi]
  walk_at "ev"
  refine ⟨trivial, calls_len (HF.set_self ..) (by simp; with_reducible exact mi9 _) ?_⟩
  rw [List.length_map]
  walk_at "ev"
  obtain ⟨hdc, hd⟩ := HF.set_none hd
  obtain ⟨hdb, hd⟩ := HF.set_none hd
  obtain ⟨hcb, hc⟩ := HF.set_none hc
  have e2 : (2 : Int) - (((ns.take 2).length : Nat) : Int) = ((2 - (ns.take 2).length : Nat) : Int) := by rw [List.length_take]; with_reducible exact mi8 _
  rw [e2]
  refine bin_mulL (by rw [HF.set_other (Ne.symm hdc), HF.set_self]) (by with_reducible exact Int.natCast_nonneg _) (by omega) (by decide) (by simp) fun e he => ?_
  obtain ⟨hed, he⟩ := HF.set_none he
  obtain ⟨hec, he⟩ := HF.set_none he
  obtain ⟨heb, he⟩ := HF.set_none he
  rw [Int.toNat_natCast, flat_repI]
  refine bin_addL (xs := (ns.take 2).map .int) (ys := (List.replicate (2 - (ns.take 2).length) 0).map PV.int) (by rw [HF.set_other (Ne.symm heb), HF.set_other (Ne.symm hdb), HF.set_other (Ne.symm hcb), HF.set_self]) (HF.set_self ..) (by simp; with_reducible exact mi7 _) fun x hx => ?_
  rw [← List.map_append, show ns.take 2 ++ List.replicate (2 - (ns.take 2).length) 0 = drawnOf ns from rfl]
  refine opq fun Gq hGq => ?_
  obtain ⟨_, hx⟩ := HF.set_none hx
  obtain ⟨_, hx⟩ := HF.set_none hx
  obtain ⟨_, hx⟩ := HF.set_none hx
  obtain ⟨_, hx⟩ := HF.set_none hx
  refine hGq ?_
  have c1 : HF.Le (H.set x (.list ((drawnOf ns).map .int))) (((((H.set b (.list ((ns.take 2).map .int))).set c (.list [.int 0])).set d (.list ((ns.take 2).map .int))).set e (.list ((List.replicate (2 - (ns.take 2).length) 0).map PV.int))).set x (.list ((drawnOf ns).map .int))) :=
    HF.Le.cong (HF.Le.newK he (HF.Le.newK hd (HF.Le.newK hc (HF.Le.newK hb (HF.Le.refl _)))))
  walk_at "ev1"
  walk_at "ev1"
  refine EvSs.weak (Vars.Le.refl _) c1 ?_
  clear c1 hb hc hd he e2
  have hT1 := hT1.set (a := x) (x := .list ((drawnOf ns).map .int)) (fun o w => by rw [hx] at w; (first | exact nsF w | exact snF w | obtain rfl := Option.some.inj w | cases w))
  have hT2 := hT2.set (a := x) (x := .list ((drawnOf ns).map .int)) (fun o w => by rw [hx] at w; (first | exact nsF w | exact snF w | obtain rfl := Option.some.inj w | cases w))
  have hxx : (H.set x (.list ((drawnOf ns).map .int))) x = some (.list ((drawnOf ns).map .int)) := HF.set_self ..
  generalize H.set x (.list ((drawnOf ns).map .int)) = H at *
  walk_at "ev1"
  refine EvS_Assign (fun env he => by (first | exact nsF env | exact snF env | obtain rfl := Option.some.inj env | cases env); (first | exact nsF he | exact snF he | obtain rfl := Option.some.inj he | cases he); kernel_rfl) rfl (fun env he => by (first | exact nsF env | exact snF env | obtain rfl := Option.some.inj env | cases env); (first | exact nsF he | exact snF he | obtain rfl := Option.some.inj he | cases he); kernel_rfl) ?_
  walk_at "ev"
  refine sub_listN (k := 0) rfl hxx (by decide) (getI (by with_reducible exact e811 (by assumption))) ?_
  walk_at "ev"
  refine bin_mod (by decide) ?_
  walk_at "ev"
  refine sub_listN (k := 0) rfl hxx (by decide) (getI (by with_reducible exact e811 (by assumption))) ?_
  walk_at "ev"
  refine bin_div (by decide) (by decide) ?_
  walk_at "ev"
  refine bin_mod (by decide) ?_
  rw [fe, nat18_eq, show nat18 ((drawnOf ns).getD 0 0 |>.fdiv 3 |> (· + 36)) = tgtOf ns from rfl]
  walk_at "ev"
  refine ⟨by simp, ?_⟩
  walk_at "ev"
  refine ⟨⟨_, _, P.K 178 _ rfl, rfl⟩, s_nodes P hL hD hn fun nl hnl => ?_⟩
  have hT1 := hT1.set (a := nl) (x := .list (ni (nodesOf ns))) (fun o w => by rw [hnl] at w; (first | exact nsF w | exact snF w | obtain rfl := Option.some.inj w | cases w))
  have hT2 := hT2.set (a := nl) (x := .list (ni (nodesOf ns))) (fun o w => by rw [hnl] at w; (first | exact nsF w | exact snF w | obtain rfl := Option.some.inj w | cases w))
  have hxn : x ≠ nl := fun w => by obtain rfl := Eq.symm w; rw [hxx] at hnl; (first | exact nsF hnl | exact snF hnl | obtain rfl := Option.some.inj hnl | cases hnl)
  have hxx : (H.set nl (.list (ni (nodesOf ns)))) x = some (.list ((drawnOf ns).map .int)) := by rw [HF.set_other hxn]; exact hxx
  have hnn : (H.set nl (.list (ni (nodesOf ns)))) nl = some (.list (ni (nodesOf ns))) := HF.set_self ..
  generalize H.set nl (.list (ni (nodesOf ns))) = H at *
  walk_at "ev"
  refine sli_base (lo := some 9) (hi := some 17) hL hD (by simp; with_reducible exact Nat.le_trans (by assumption) (by decide)) fun b hb => ?_
  rw [slice_eq (by decide)]
  walk_at "ev"
  refine ⟨by simp, fun c hc => ?_⟩
  obtain ⟨hcb, hc⟩ := HF.set_none hc
  walk_at "ev"
  refine bin_mulL (HF.set_self ..) (by decide) (by decide) (by decide) (by simp) fun e he => ?_
  obtain ⟨hec, he⟩ := HF.set_none he
  obtain ⟨heb, he⟩ := HF.set_none he
  rw [show Int.toNat 8 = 8 from rfl, flat_repI]
  refine bin_addL (xs := ((ns.drop 9).take (17 - 9)).map .int) (ys := (List.replicate 8 0).map PV.int) (by rw [HF.set_other (Ne.symm heb), HF.set_other (Ne.symm hcb), HF.set_self]) (HF.set_self ..) (by simp; omega) fun r hr => ?_
  rw [← List.map_append, show (ns.drop 9).take (17 - 9) ++ List.replicate 8 0 = roundsOf ns from rfl]
  obtain ⟨_, hr⟩ := HF.set_none hr
  obtain ⟨_, hr⟩ := HF.set_none hr
  obtain ⟨_, hr⟩ := HF.set_none hr
  have c1 : HF.Le (H.set r (.list ((roundsOf ns).map .int))) ((((H.set b (.list (((ns.drop 9).take (17 - 9)).map .int))).set c (.list [.int 0])).set e (.list ((List.replicate 8 0).map PV.int))).set r (.list ((roundsOf ns).map .int))) :=
    HF.Le.cong (HF.Le.newK he (HF.Le.newK hc (HF.Le.newK hb (HF.Le.refl _))))
  walk_at "ev1"
  walk_at "ev1"
  refine EvSs.weak (Vars.Le.refl _) c1 ?_
  clear c1 hb hc he
  have hT1 := hT1.set (a := r) (x := .list ((roundsOf ns).map .int)) (fun o w => by rw [hr] at w; (first | exact nsF w | exact snF w | obtain rfl := Option.some.inj w | cases w))
  have hT2 := hT2.set (a := r) (x := .list ((roundsOf ns).map .int)) (fun o w => by rw [hr] at w; (first | exact nsF w | exact snF w | obtain rfl := Option.some.inj w | cases w))
  have hxx : (H.set r (.list ((roundsOf ns).map .int))) x = some (.list ((drawnOf ns).map .int)) := by rw [HF.set_other (fun w => by obtain rfl := Eq.symm w; rw [hxx] at hr; (first | exact nsF hr | exact snF hr | obtain rfl := Option.some.inj hr | cases hr))]; exact hxx
  have hnn : (H.set r (.list ((roundsOf ns).map .int))) nl = some (.list (ni (nodesOf ns))) := by rw [HF.set_other (fun w => by obtain rfl := Eq.symm w; rw [hnn] at hr; (first | exact nsF hr | exact snF hr | obtain rfl := Option.some.inj hr | cases hr))]; exact hnn
  have hrr : (H.set r (.list ((roundsOf ns).map .int))) r = some (.list ((roundsOf ns).map .int)) := HF.set_self ..
  generalize H.set r (.list ((roundsOf ns).map .int)) = H at *
  generalize hN : nodesOf ns = N at *
  generalize ht : tgtOf ns = t at *
  generalize hfew : fewOf ns = few at *
  have getN : ∀ i, i < 8 → (ni N)[i]? = some (.int (N.getD i 0 : Nat)) := fun i hi => ni_getD (by with_reducible exact Nat.lt_of_lt_of_le (by assumption) (Nat.le_of_eq (Eq.symm (by assumption))))
  walk_at "ev1"
  refine EvS_AssignDict (fun i => N.getD i 0) (trOf ns) 8 [(Str.ofString "rounds", .ref r), (Str.ofString "nodes", .ref nl)] (fun env he => by (first | exact nsF env | exact snF env | obtain rfl := Option.some.inj env | cases env); (first | exact nsF he | exact snF he | obtain rfl := Option.some.inj he | cases he); kernel_rfl) (by kernel_rfl) (by kernel_rfl) (by kernel_rfl) (by kernel_rfl) (fun i j hi hj e => ?_) (by decide) ?_
  · have gi : N.getD i 0 = N[i] := by simp [N8, hi]
    have gj : N.getD j 0 = N[j] := by simp [N8, hj]
    rw [gi, gj] at e
    rcases Nat.lt_trichotomy i j with z | z | z
    · exact absurd e (List.pairwise_iff_getElem.mp N1 i j (by with_reducible exact Nat.lt_of_lt_of_le (by assumption) (Nat.le_trans (Nat.le_of_lt (by assumption)) (Nat.le_of_eq (Eq.symm (by assumption))))) (by with_reducible exact Nat.lt_of_lt_of_le (by assumption) (Nat.le_of_eq (Eq.symm (by assumption)))) z)
    · exact z
    · exact absurd e.symm (List.pairwise_iff_getElem.mp N1 j i (by with_reducible exact Nat.lt_of_lt_of_le (by assumption) (Nat.le_trans (Nat.le_of_lt (by assumption)) (Nat.le_of_eq (Eq.symm (by assumption))))) (by with_reducible exact Nat.lt_of_lt_of_le (by assumption) (Nat.le_of_eq (Eq.symm (by assumption)))) z)
  walk_at "ev"
  refine ⟨trivial, calls_range1 fun rg hrg => ?_⟩
  refine ⟨rg, rfl, HF.set_self .., fun i hi d o hd => ?_, fun d o f hd hDM hfv => ?_⟩
  · obtain ⟨hdr, hd⟩ := HF.set_none hd
    walk_at "ev"
    refine ⟨rfl, (by walk_at "vle"), ?_⟩
    have en : ∀ {b z}, H b = some z → ((H.set rg (.range 0 (8 : Nat))).set d (.obj o)) b = some z := fun {b z} e => by
      rw [HF.set_other (fun w => by obtain rfl := Eq.symm w; rw [hd] at e; (first | exact nsF e | exact snF e | obtain rfl := Option.some.inj e | cases e)), HF.set_other (fun w => by obtain rfl := Eq.symm w; rw [hrg] at e; (first | exact nsF e | exact snF e | obtain rfl := Option.some.inj e | cases e))]; exact e
    walk_at "ev"
    refine sub_listN (k := i) rfl (en hnn) (by with_reducible exact Nat.lt_of_lt_of_le (by assumption) (by decide)) (getN i hi) ?_
    refine ⟨rfl, rfl, ?_⟩
    walk_at "ev"
    refine sub_listN (k := i) rfl (en hrr) (by with_reducible exact Nat.lt_of_lt_of_le (by assumption) (by decide)) (getI (by with_reducible exact Nat.lt_of_lt_of_le (by assumption) (by assumption))) ?_
    walk_at "ev"
    refine bin_mod (by decide) ?_
    rw [tr_eq]
    exact ⟨rfl, rfl⟩
  obtain ⟨hdr, hd⟩ := HF.set_none hd
  have hd9 : d ≠ 199 := fun w => by
    obtain rfl := Eq.symm w; obtain ⟨ps, e⟩ := hT1.at; rw [hd] at e; (first | exact nsF e | exact snF e | obtain rfl := Option.some.inj e | cases e)
  have hT1 : TabOK ((H.set rg (.range 0 (8 : Nat))).set d (.obj o)) 199 posA qA := hT1.keep fun b z e => by
    rw [HF.set_other (fun w => by obtain rfl := Eq.symm w; rw [hd] at e; (first | exact nsF e | exact snF e | obtain rfl := Option.some.inj e | cases e)), HF.set_other (fun w => by obtain rfl := Eq.symm w; rw [hrg] at e; (first | exact nsF e | exact snF e | obtain rfl := Option.some.inj e | cases e))]; exact e
  have hT2 : TabOK ((H.set rg (.range 0 (8 : Nat))).set d (.obj o)) 216 posS qS := hT2.keep fun b z e => by
    rw [HF.set_other (fun w => by obtain rfl := Eq.symm w; rw [hd] at e; (first | exact nsF e | exact snF e | obtain rfl := Option.some.inj e | cases e)), HF.set_other (fun w => by obtain rfl := Eq.symm w; rw [hrg] at e; (first | exact nsF e | exact snF e | obtain rfl := Option.some.inj e | cases e))]; exact e
  have en : ∀ {b z}, H b = some z → ((H.set rg (.range 0 (8 : Nat))).set d (.obj o)) b = some z := fun {b z} e => by
    rw [HF.set_other (fun w => by obtain rfl := Eq.symm w; rw [hd] at e; (first | exact nsF e | exact snF e | obtain rfl := Option.some.inj e | cases e)), HF.set_other (fun w => by obtain rfl := Eq.symm w; rw [hrg] at e; (first | exact nsF e | exact snF e | obtain rfl := Option.some.inj e | cases e))]; exact e
  have hdd : ((H.set rg (.range 0 (8 : Nat))).set d (.obj o)) d = some (.obj o) := HF.set_self ..
  have hxx := en hxx
  have hnn := en hnn
  clear en
  generalize ((H.set rg (.range 0 (8 : Nat))).set d (.obj o)) = H at *
  -- the nearest of all
  refine opq fun Gq hGq => ?_
  obtain ⟨L0, a0, p0⟩ := asc_ex t N N1
  have hl0 := p0.length_eq
  obtain ⟨M, r0, rfl⟩ : ∃ M r0, L0 = M :: r0 := by
    cases L0 with
    | nil => rw [N8] at hl0; (first | exact nsF hl0 | exact snF hl0 | obtain rfl := Option.some.inj hl0 | cases hl0)
    | cons M r0 => exact ⟨M, r0, rfl⟩
  refine hGq ?_
  have X : Net N few t M (fun a => tblOf a few (rowOf N (trOf ns (N.idxOf a)))) (fun a => rowOf N (trOf ns (N.idxOf a))) := {
    few0 := f1
    nd := N1
    MN := p0.mem_iff.mp List.mem_cons_self
    Mm := fun y hy => by
      rcases List.mem_cons.mp (p0.mem_iff.mpr hy) with q | q
      · rw [q]; exact Nat.le_refl _
      · exact Nat.le_of_lt ((List.pairwise_cons.mp a0).1 y q)
    rw_ := fun a _ => row_perm N _
    tb := fun a _ => tblOf_ok ((row_perm N _).nodup_iff.mpr N1) }
  have hd1 : ((drawnOf ns).getD 1 0).fmod 8 = ((((drawnOf ns).getD 1 0).fmod 8).toNat : Nat) ∧ (((drawnOf ns).getD 1 0).fmod 8).toNat < 8 := by
    have h1 := Int.fmod_nonneg_of_pos ((drawnOf ns).getD 1 0) (b := 8) (by decide)
    have h2 := Int.fmod_lt_of_pos ((drawnOf ns).getD 1 0) (b := 8) (by decide)
    exact fm1 h1 h2
  generalize hsi : (((drawnOf ns).getD 1 0).fmod 8).toNat = si at hd1
  have hsN : N.getD si 0 ∈ N := by
    have : si < N.length := by with_reducible exact e82 (by assumption) (by assumption)
    rw [List.getD_eq_getElem?_getD, List.getElem?_eq_getElem this]; exact List.getElem_mem this
  walk_at "ev"
  refine sub_listN (k := 1) rfl hxx (by decide) (getI (by with_reducible exact e812 (by assumption))) ?_
  walk_at "ev"
  refine bin_mod (by decide) ?_
  rw [hd1.1]
  refine sub_listN (k := si) rfl hnn (by with_reducible exact e83 (by assumption)) (getN si hd1.2) ?_
  walk_at "ev"
  refine ⟨⟨_, _, P.K 221 _ rfl, rfl⟩, s_search P (turnOf := fun a => trOf ns (N.idxOf a)) (fun _ => rfl) (fun _ => rfl) X N8 Nv hsN f1 f3 hnn hdd hDM (fun a ha => ?_) hd9 hT1 hT2 fun F A asked R H' hF hA hal hnar hR hkeep hTon => ?_⟩
  · have hi : N.idxOf a < 8 := by rw [← N8]; exact List.idxOf_lt_length_of_mem ha
    have := hfv (N.idxOf a) hi
    have e : N.getD (N.idxOf a) 0 = a := by
      have : N.idxOf a < N.length := by with_reducible exact Nat.lt_of_lt_of_le (by assumption) (Nat.le_of_eq (Eq.symm (by assumption)))
      rw [List.getD_eq_getElem?_getD, List.getElem?_eq_getElem this]
      exact List.getElem_idxOf this
    rw [e] at this
    exact this
  have hn1 : nl ≠ 199 := fun w => by obtain rfl := Eq.symm w; obtain ⟨ps, e⟩ := hT1.at; rw [hnn] at e; (first | exact nsF e | exact snF e | obtain rfl := Option.some.inj e | cases e)
  have hn2 : nl ≠ 216 := fun w => by obtain rfl := Eq.symm w; obtain ⟨ps, e⟩ := hT2.at; rw [hnn] at e; (first | exact nsF e | exact snF e | obtain rfl := Option.some.inj e | cases e)
  have hnn := hkeep nl _ hn1 hn2 hnn
  clear hkeep hxx hdd hT1 hT2
  generalize H' = H at *
  walk_at "ev"
  refine EvE_Comp1 [(Str.ofString "target", .int (t : Nat))] (dueP t) (by kernel_rfl) (by kernel_rfl) (by kernel_rfl) ?_
  walk_at "ev"
  refine ⟨.list nl (ni N), rfl, hnn, by show (ni N).length ≤ _; rw [ni_length]; with_reducible exact Nat.le_trans (Nat.le_of_eq (by assumption)) (by decide), fun i x hx => ?_, fun c hc => ?_⟩
  · obtain ⟨u, hu, rfl⟩ := ni_get hx
    walk_at "ev"
    refine ⟨vle_new (by kernel_rfl) (Vars.Le.refl _), ?_⟩
    walk_at "ev"
    exact ⟨fun _ => by
      walk_at "ev"
      refine bin_xorN ?_
      walk_at "ev"
      exact ⟨by simp, HF.Le.refl _, rfl⟩, fun q => (nomatch q)⟩
  rw [show (Src.list nl (ni N)).items.filterMap (dueP t) = (N.map (itm t)).map ti from due_eq t N]
  walk_at "ev"
  have ndI : (N.map (itm t)).Nodup := List.pairwise_map.mpr (N1.imp fun h e => h (by simp [itm] at e; omega))
  refine ⟨trivial, calls_sorted (xs := N.map (itm t)) (k := 1) (HF.set_self ..) (fun x hx => by obtain ⟨y, _, rfl⟩ := List.mem_map.mp hx; rfl) ndI (by simp; with_reducible exact e810 (by assumption)) (by simp; with_reducible exact Nat.lt_of_le_of_lt (Nat.le_of_eq (by assumption)) (by decide)) fun ys e p1 p2 he => ?_⟩
  refine opq fun Gq hGq => ?_
  obtain ⟨L, rfl, q1, q2⟩ := sorted_due N1 p1 p2
  obtain ⟨hec, he⟩ := HF.set_none he
  refine hGq ?_
  have hLM : L = M :: r0 := Asc.eq q2 a0 fun x => by rw [q1.mem_iff, p0.mem_iff]
  have c1 : HF.Le (H.set e (.list ((L.map (itm t)).map ti))) ((H.set c (.list ((N.map (itm t)).map ti))).set e (.list ((L.map (itm t)).map ti))) := HF.Le.cong (HF.Le.newK hc (HF.Le.refl _))
  have hL8 : L.length = 8 := by rw [q1.length_eq, N8]
  walk_at "ev1"
  walk_at "ev1"
  refine EvSs.weak (Vars.Le.refl _) c1 ?_
  have k2 : ∀ {b z}, H b = some z → (H.set e (.list ((L.map (itm t)).map ti))) b = some z := fun {b z} q => by rw [HF.set_other (fun w => by obtain rfl := Eq.symm w; rw [he] at q; (first | exact nsF q | exact snF q | obtain rfl := Option.some.inj q | cases q))]; exact q
  have hF := k2 hF
  have hA := k2 hA
  have hTon : TabsOn (H.set e (.list ((L.map (itm t)).map ti))) := ⟨hTon.1.imp fun _ q => k2 q, hTon.2.imp fun _ q => k2 q⟩
  have hee : (H.set e (.list ((L.map (itm t)).map ti))) e = some (.list ((L.map (itm t)).map ti)) := HF.set_self ..
  clear k2 c1 hc he hnn
  generalize H.set e (.list ((L.map (itm t)).map ti)) = H at *
  walk_at "ev"
  refine EvE_And ?_
  refine EvE_Compare rfl ?_
  walk_at "ev"
  refine EvE_Comp1 [] secP (by kernel_rfl) (by kernel_rfl) (by kernel_rfl) ?_
  walk_at "ev"
  refine sli_list (lo := none) (hi := some few) hee (by simp; with_reducible exact Nat.le_trans (Nat.le_of_eq (by assumption)) (by decide)) fun b hb => ?_
  have hsl : ((((L.map (itm t)).map ti).drop ((none : Option Nat).getD 0)).take (min ((some few).getD ((L.map (itm t)).map ti).length) ((L.map (itm t)).map ti).length - (none : Option Nat).getD 0)) = ((L.take few).map (itm t)).map ti := by
    simp only [Option.getD_none, Option.getD_some, List.drop_zero, Nat.sub_zero, List.length_map, ← List.map_take]
    rw [Nat.min_eq_left (by with_reducible exact e84 (by assumption) (by assumption))]
  rw [hsl]
  refine ⟨.list b (((L.take few).map (itm t)).map ti), rfl, HF.set_self .., by show (((L.take few).map (itm t)).map ti).length ≤ 100000; simp; with_reducible exact e813 (by assumption), fun i x hx => ?_, fun d hd => ?_⟩
  · refine opq fun Gq hGq => ?_
    obtain ⟨y, hy1, rfl⟩ : ∃ y, y ∈ L.take few ∧ x = ti (itm t y) := by
      have : x ∈ ((L.take few).map (itm t)).map ti := List.mem_of_getElem? hx
      obtain ⟨y, q1, q2⟩ := List.mem_map.mp this
      obtain ⟨z, q3, q4⟩ := List.mem_map.mp q1
      exact ⟨z, q3, by rw [q4, q2]⟩
    refine hGq ?_
    rw [show ti (itm t y) = .tup [.int ((y ^^^ t : Nat) : Int), .int (y : Int)] from rfl]
    walk_at "ev"
    refine ⟨vle_nil, ?_⟩
    walk_at "ev"
    exact ⟨fun _ => by
      walk_at "ev"
      exact ⟨HF.Le.refl _, rfl⟩, fun q => (nomatch q)⟩
  rw [show (Src.list b (((L.take few).map (itm t)).map ti)).items.filterMap secP = ni (L.take few) from sec_eq t _]
  obtain ⟨hdb, hd⟩ := HF.set_none hd
  have hRL : R = L.take few := hR.uniq (nsm_take q2 q1)
  have k3 : ∀ {b' z}, H b' = some z → ((H.set b (.list (((L.take few).map (itm t)).map ti))).set d (.list (ni (L.take few)))) b' = some z := fun {b' z} q => by
    rw [HF.set_other (fun w => by obtain rfl := Eq.symm w; rw [hd] at q; (first | exact nsF q | exact snF q | obtain rfl := Option.some.inj q | cases q)), HF.set_other (fun w => by obtain rfl := Eq.symm w; rw [hb] at q; (first | exact nsF q | exact snF q | obtain rfl := Option.some.inj q | cases q))]; exact q
  refine cmp_eq_ni (xs := R) (ys := L.take few) (k3 hF) (HF.set_self ..) ?_
  rw [decide_eq_true hRL]
  refine tru_bool ⟨fun _ => ?_, fun q => (nomatch q)⟩
  walk_at "ev"
  have g0 : ((L.map (itm t)).map ti)[0]? = some (ti (itm t M)) := by rw [hLM]; rfl
  refine sub_listN (k := 0) rfl (k3 hee) (by decide) g0 ?_
  rw [show ti (itm t M) = .tup [.int ((M ^^^ t : Nat) : Int), .int (M : Int)] from rfl]
  walk_at "ev"
  refine sub_tupN (k := 1) (p := .int (M : Int)) rfl (by decide) rfl ?_
  walk_at "ev"
  refine ⟨⟨_, _, P.K 228 _ rfl, rfl⟩, s_narrows P (k3 hA) (by with_reducible exact Nat.le_trans (by assumption) (by decide)) ?_⟩
  rw [hnar]
  walk_at "ev"
  exact ⟨_, HF.Le.refl _, rfl, hTon.1.imp fun _ q => k3 q, hTon.2.imp fun _ q => k3 q⟩
end
end
section
theorem lookup_mem2 {α β : Type} [BEq α] [LawfulBEq α] {x : α} {v : β} : ∀ {l : List (α × β)}, l.lookup x = some v → (x, v) ∈ l
  | [], h => by (first | exact nsF h | exact snF h | obtain rfl := Option.some.inj h | cases h)
  | (y, w) :: r, h => by
    rw [List.lookup_cons] at h
    cases q : x == y with
    | true => rw [q] at h; (first | exact nsF h | exact snF h | obtain rfl := Option.some.inj h | cases h); rw [eq_of_beq q]; exact List.mem_cons_self
    | false => rw [q] at h; exact List.mem_cons_of_mem _ (lookup_mem2 h)
theorem glob_names {w : World} {h : Heap} {mg mb : Str → Option Value} (KX : (Mine.KK w.params).In h) (hg : h.Ns mainGlobals mg) (hb : ∀ x : Str, x ≠ "__name__" → mb x = bootBuiltins x) :
    ∀ e ∈ globs, ∃ v, Den h e.2 v ∧ (mg e.1 = some v ∨ (mg e.1 = none ∧ mb e.1 = some v)) := by
  have hr : ∀ x k, PySem.W.nsIn (Mine.KK w.params) mainGlobals x = some (some (.ref k)) → ∃ v, Den h (.ref k) v ∧ (mg x = some v ∨ (mg x = none ∧ mb x = some v)) := fun x k e => ⟨_, rfl, .inl (PySem.W.mg_of KX hg e)⟩
  have hbu : ∀ x i, PySem.W.nsIn (Mine.KK w.params) mainGlobals x = some none → x ≠ "__name__" → bootBuiltins x = some (.builtin i) → ∃ v, Den h (.builtin i) v ∧ (mg x = some v ∨ (mg x = none ∧ mb x = some v)) := fun x i e n q => ⟨_, rfl, .inr ⟨PySem.W.mg_none_of KX hg e, (hb x n).trans q⟩⟩
  have hty : ∀ x i, PySem.W.nsIn (Mine.KK w.params) mainGlobals x = some none → x ≠ "__name__" → bootBuiltins x = some (.type i) → ∃ v, Den h (.type i) v ∧ (mg x = some v ∨ (mg x = none ∧ mb x = some v)) := fun x i e n q => ⟨_, rfl, .inr ⟨PySem.W.mg_none_of KX hg e, (hb x n).trans q⟩⟩
  unfold globs
  repeat' (first
    | refine List.forall_mem_cons.mpr ⟨?_, ?_⟩
    | exact fun _ q => absurd q List.not_mem_nil
    | exact hr _ _ (by kernel_rfl)
    | exact hbu _ _ (by kernel_rfl) (by decide) (by kernel_rfl)
    | exact hty _ _ (by kernel_rfl) (by decide) (by kernel_rfl))
  · exact ⟨.ref 84, ⟨84, #[.type "bytes", .type "bytearray"], rfl, KX 84 _ (by kernel_rfl), ⟨_, _, rfl, rfl, ⟨_, _, rfl, rfl, rfl⟩⟩⟩, .inl (PySem.W.mg_of KX hg (by kernel_rfl))⟩
  · exact ⟨.bytes b64tab.toArray 341, ⟨341, rfl⟩, .inl (PySem.W.mg_of KX hg (by kernel_rfl))⟩
theorem ints_den {h : Heap} : ∀ {vs : List Value} {ns : List Int}, IntsAre vs ns → DenL h (ns.map .int) vs
  | _, _, .nil => rfl
  | _, _, .cons n t r => ⟨_, _, rfl, ⟨t, rfl⟩, ints_den r⟩
theorem look1 : (PySem.W.namesResolve pE && pE.boundNames.all (fun n => !PySem.W.worldNames.contains n)) = true := by kernel_rfl
theorem look2 : PySem.W.noRoadLSs { strict := !(importedModules pE.main.body).all PySem.W.cThrough.contains, foot := none, bare := (["vars", "dir", "locals"] : List Str).filter (PySem.W.readsOut pE pE.main.body) } pE.main.body = true := by kernel_rfl
theorem look3 : (PySem.W.namesMeet pE pE.main.body fun _ n => PySem.W.attrL n) = true := by kernel_rfl
theorem look4 : (PySem.W.sreFenced pE.main && ((moduleNames pE.main.body).isEmpty || lookedIntoSs (moduleNames pE.main.body) pE.main.body)) = true := by kernel_rfl
theorem look_ok : PySem.W.looksOpen pE = true := by
  have h1 := (Bool.and_eq_true_iff.mp look1).1
  have h2 := (Bool.and_eq_true_iff.mp look1).2
  unfold PySem.W.looksOpen
  rw [look4, h1, h2, look2, look3]
  rfl
theorem part_ok : PySem.Challenge.rw_rt0019_02.row.partSaid = true := by
  unfold PySem.W.OpenRow.partSaid
  rw [look_ok]
  kernel_rfl
theorem row_ok : PySem.Challenge.rw_rt0019_02.row.wellSaid = true := by
  unfold PySem.W.OpenRow.wellSaid
  rw [part_ok]
  kernel_rfl
theorem said_ok : PySem.Challenge.rw_rt0019_02.wellSaid = true := by
  unfold PySem.W.OpenLaw.wellSaid
  rw [row_ok]
  kernel_rfl
noncomputable def KT (P : Params) : PySem.W.Frag := (Mine.KK P) ++ [(199, PySem.W.tabObj #[]), (216, PySem.W.tabObj #[])]
noncomputable def KTA : List Addr := KA ++ [199, 216]
theorem KTA_eq : ∀ P, KTA = (KT P).map (·.1) := fun P => by kernel_rfl
noncomputable abbrev HT : PySem.W.Hook := PySem.W.kHook KT KTA KTA_eq
theorem left_atT : ∀ w os, (PySem.W.topFrom treeTable pE w 2542 ⟨PySem.W.boot_heap w.params, Array.mk [], PySem.W.boot_drawn, PySem.W.boot_toks, os⟩).map (fun s => (PySem.W.openSeen qV looseL (importedModules pE.main.body) xtF true s, HT.obs s))
   = some (PySem.W.openGood qV looseL, HT.val w) := fun w os => by
  unfold PySem.W.topFrom
  rw [PySem.W.Fast.te14082659384304107361, PySem.W.Fast.te14364793385576792824, PySem.W.Fast.te4187177175401517315]
  kernel_rfl
theorem left_okT : PySem.W.LeftO pE qV looseL xtF HT.obs HT.val 2542 := fun w => by
  obtain ⟨s, hs, hv⟩ := Option.map_eq_some_iff.mp (PySem.W.boot_open (N := 2542) boot_q (by decide) fence_q w)
  obtain ⟨h, gn, dr, tk, os⟩ := s
  simp only [Prod.mk.injEq] at hv
  obtain ⟨rfl, rfl, rfl, rfl⟩ := hv
  unfold PySem.W.openEnds
  rw [hs, Option.bind_some]
  exact left_atT w os
noncomputable abbrev hid (h : Heap) : Heap := PySem.W.hideAll h [199, 216]
noncomputable def H0 : HF := (HF.set (fun _ => none) 199 (.obj (PySem.W.tabObj #[]))).set 216 (.obj (PySem.W.tabObj #[]))
theorem H0_at {a : Addr} {x : AO} (e : H0 a = some x) : (a = 199 ∨ a = 216) ∧ x = .obj (PySem.W.tabObj #[]) := by
  unfold H0 at e
  by_cases q : a = 216
  · obtain rfl := Eq.symm q; rw [HF.set_self] at e; (first | exact nsF e | exact snF e | obtain rfl := Option.some.inj e | cases e); exact ⟨.inr rfl, rfl⟩
  · rw [HF.set_other q] at e
    by_cases r : a = 199
    · obtain rfl := Eq.symm r; rw [HF.set_self] at e; (first | exact nsF e | exact snF e | obtain rfl := Option.some.inj e | cases e); exact ⟨.inl rfl, rfl⟩
    · rw [HF.set_other r] at e; (first | exact nsF e | exact snF e | obtain rfl := Option.some.inj e | cases e)
structure Tabs (h : Heap) : Prop where
  a : h.get? 199 = some (PySem.W.tabObj #[])
  b : h.get? 216 = some (PySem.W.tabObj #[])
theorem Tabs.get {h : Heap} {b : Addr} {o : Obj} (T : Tabs h) (e : h.get? b = some o) (hn : o ≠ PySem.W.tabObj #[]) : (hid h).get? b = some o :=
  PySem.W.hideAll_get _ e fun q => by
    rcases List.mem_cons.mp q with q | q
    · obtain rfl := Eq.symm q; rw [T.a] at e; (first | exact nsF e | exact snF e | obtain rfl := Option.some.inj e | cases e); exact hn rfl
    · have q := List.mem_singleton.mp q
      obtain rfl := Eq.symm q; rw [T.b] at e; (first | exact nsF e | exact snF e | obtain rfl := Option.some.inj e | cases e); exact hn rfl
theorem Tabs.none {h : Heap} {b : Addr} (q : b = 199 ∨ b = 216) : (hid h).get? b = none := PySem.W.hideAll_none _ (by rcases q with rfl | rfl <;> decide)
theorem Tabs.ns {h : Heap} {a : Addr} {mm : Str → Option Value} (T : Tabs h) (x : h.Ns a mm) : (hid h).Ns a mm :=
  let ⟨o, es, ep, e, hd, r⟩ := x; ⟨o, es, ep, T.get e (fun q => by rw [q] at hd; (first | exact nsF hd | exact snF hd | obtain rfl := Option.some.inj hd | cases hd)), hd, r⟩
theorem Tabs.isList {h : Heap} {a : Addr} {vs : Array Value} (T : Tabs h) (x : h.IsList a vs) : (hid h).IsList a vs := by
  obtain ⟨o, e, hc, r⟩ := x
  exact ⟨o, T.get e (fun q => by rw [q] at hc; (first | exact nsF hc | exact snF hc | obtain rfl := Option.some.inj hc | cases hc)), hc, r⟩
theorem kk_199 (P : Params) : (Mine.KK P).lookup 199 = none := by kernel_rfl
theorem kk_216 (P : Params) : (Mine.KK P).lookup 216 = none := by kernel_rfl
theorem kt_kk {P : Params} {h : Heap} (X : (KT P).In h) : (Mine.KK P).In h := fun a o e => X a o (by
  unfold KT
  rw [List.lookup_append, e]; rfl)
theorem kt_tabs {P : Params} {h : Heap} (X : (KT P).In h) : Tabs h := ⟨X 199 _ (by kernel_rfl), X 216 _ (by kernel_rfl)⟩
theorem kk_hid {P : Params} {h : Heap} (X : (Mine.KK P).In h) : (Mine.KK P).In (hid h) := fun a o e => PySem.W.hideAll_get _ (X a o e) fun q => by
  rcases List.mem_cons.mp q with q | q
  · obtain rfl := Eq.symm q; rw [kk_199] at e; (first | exact nsF e | exact snF e | obtain rfl := Option.some.inj e | cases e)
  · have q := List.mem_singleton.mp q
    obtain rfl := Eq.symm q; rw [kk_216] at e; (first | exact nsF e | exact snF e | obtain rfl := Option.some.inj e | cases e)
theorem tab_199 {P : Params} {h : Heap} (X : (Mine.KK P).In h) (T : Tabs h) : isCodeTable h 199 := Heap.TableAt.isCodeTable (c := 201) (ps := #[]) ⟨⟨_, _, X 201 _ rfl, rfl, rfl, rfl⟩, T.a⟩
theorem tab_216 {P : Params} {h : Heap} (X : (Mine.KK P).In h) (T : Tabs h) : isCodeTable h 216 := Heap.TableAt.isCodeTable (c := 220) (ps := #[]) ⟨⟨_, _, X 220 _ rfl, rfl, rfl, rfl⟩, T.b⟩
theorem fin_law (hlaw : ∀ (g : G) (P : Prog g) (a : Addr) (vs : Array Value) (ns : List Int) (H : HF), g.h₀.IsList a vs → DenL g.h₀ (ns.map .int) vs.toList → ns.length ≤ 100 → TabOK H 199 posA qA → TabOK H 216 posS qS → Calls g 20 (.ref 233) [.ref a] [] H (fun v H' => v = .bool true ∧ TabsOn H')) :
    PySem.Challenge.rw_rt0019_02.Holds := by
  w_on
  refine PySem.W.holds_law said_ok fun _ => ?_
  refine PySem.W.holds_open (q := qV) (loose := looseL) (Xt := xtF) (XP := PySem.W.XL qV []) (Yf := HT.obs) (Ya := HT.val) (YP := HT.says) (N := 2542) left_okT HT.of HT.keeps (fun s e => PySem.W.xl_of s (Bool.and_eq_true_iff.mp e).1) PySem.W.XL.keeps (by rfl) (by rfl) (by rfl) (fun s e => PySem.W.recFacts_of (Bool.and_eq_true_iff.mp e).2) rfl (by first | assumption | decide +kernel) (by decide +kernel) ⟨rfl, rfl, rfl, rfl, rfl, by decide +kernel⟩ ?hw ?hc
  case hw => w_witness2
  case hc =>
  intro w s₀ s₁ mg mb Gr Y fa o pm cd doc dV kV ho hd hcd hD hmg hg args vals as hpre hlay hrd hwl hlo
  have KX0 := PySem.W.kIn_of Y
  have TT := kt_tabs KX0
  have KX1 := kt_kk KX0
  have KX := kk_hid KX1
  refine PySem.W.Ground.open Gr ?_
  intro T B D TE TW
  have efa : mg "law" = some (.ref 233) := PySem.W.mg_of KX1 T.g (by kernel_rfl)
  have efa2 : mg "law" = some (.ref fa) := hmg
  rw [efa] at efa2
  (first | exact nsF efa2 | exact snF efa2 | obtain rfl := Option.some.inj efa2 | cases efa2)
  clear hD hcd hd ho hmg
  wrow_args hpre hlay hrd hwl hlo
  all_goals (
    rename_i ns _ _ _ _ _ _ _ a vs _ hL _ _ _ hI _ hc _)
  have hns : ns.length ≤ 100 := by omega
  obtain ⟨gg, P, e1, e2, e3⟩ : ∃ gg : Mine.G, Prog gg ∧ gg.prog = PySem.Challenge.rw_rt0019_02.row.prog ∧ gg.w = w ∧ gg.h₀ = hid s₁.heap :=
    ⟨⟨PySem.Challenge.rw_rt0019_02.row.prog, w, hid s₁.heap, globs, (let ⟨mc, a, r⟩ := T.nolimit; ⟨mc, TT.ns a, r⟩), ⟨mg, mb, TT.ns T.g, TT.ns T.b, fun x p e => glob_names KX (TT.ns T.g) T.builtins (x, p) (lookup_mem2 e)⟩,
      (let ⟨bm, ob, a1, a2, a3, a4, r⟩ := T.bmain; ⟨mg, bm, ob, TT.ns T.g, a1, a2, TT.get a3 (fun q => by rw [q] at a4; (first | exact nsF a4 | exact snF a4 | obtain rfl := Option.some.inj a4 | cases a4)), a4, r⟩)⟩, ⟨KX, rfl⟩, rfl, rfl, rfl⟩
  have ok1 : TabOK H0 199 posA qA := .inl ⟨#[], by unfold H0; rw [HF.set_other (by decide), HF.set_self], trivial, by kernel_rfl⟩
  have ok2 : TabOK H0 216 posS qS := .inl ⟨#[], HF.set_self .., trivial, by kernel_rfl⟩
  have hl := hlaw gg P a vs.toArray ns H0 (by rw [e3]; exact TT.isList hL) (by rw [e3]; exact ints_den hI) hns ok1 ok2
  have hI0 : HI gg [] (fun _ => none) H0 s₁.heap := ⟨fun b o e => PySem.W.of_hideAll _ (by rw [e3] at e; exact e), fun b o e => (by (first | exact nsF e | exact snF e | obtain rfl := Option.some.inj e | cases e)), fun b o e => by
    obtain ⟨q, rfl⟩ := H0_at e
    refine ⟨by rw [e3]; exact Tabs.none q, rfl, PySem.W.tabObj #[], ?_, rfl, fun z => by cases z.1⟩
    rcases q with rfl | rfl
    · exact TT.a
    · exact TT.b, fun b e => absurd e List.not_mem_nil⟩
  have hR : Room 20 [] callerA := ⟨rfl, by decide, by decide, [], rfl, rfl, fun _ e => absurd e List.not_mem_nil⟩
  have hh := Op.bd (W := fun v s' => ∃ b H', (b = PV.bool true ∧ TabsOn H') ∧ Den s'.heap b v ∧ HI gg [] (fun _ => none) H' s'.heap ∧ Same s₁ s') (E := fun e s' => PySem.W.GoodWG PySem.Challenge.rw_rt0019_02.row.claim (classAt s₀.heap) (ExcName.means s₀.heap) [PySem.W.ofPy (PyData.list (List.map PyData.int ns))] s₁ (.error e) s') (hl (.ref 233) [.ref a] []) hR hI0 ⟨rfl, ⟨_, _, rfl, rfl, rfl⟩, rfl⟩ fun a s' b H' q d I e _ => ⟨b, H', q, d, I, e⟩
  rw [e1, e2] at hh
  refine wpAny_mono hh (fun v s' x => ?_) fun _ _ x => x
  obtain ⟨b, H', ⟨rfl, hT⟩, hd, hI', hs⟩ := x
  have hv : v = .bool true := hd
  obtain rfl := Eq.symm hv
  obtain ⟨⟨p1, q1⟩, p2, q2⟩ := hT
  obtain ⟨_, _, o1, g1, r1, _⟩ := hI'.mine _ _ q1
  obtain ⟨_, _, o2, g2, r2, _⟩ := hI'.mine _ _ q2
  obtain rfl := Eq.symm r1; obtain rfl := Eq.symm r2
  have keep : ∀ b o, b ≠ 199 → b ≠ 216 → s₁.heap.get? b = some o → s'.heap.get? b = some o := fun b o n1 n2 e => hI'.base b o (by
    rw [e3]
    exact PySem.W.hideAll_get _ e fun q => by
      rcases List.mem_cons.mp q with q | q
      · exact n1 q
      · exact n2 (List.mem_singleton.mp q))
  refine ⟨.inl ⟨.bool true, .bool true, [], rfl, fun _ => ?_, ?_, ?_, fun _ => ⟨List.nodup_nil, fun _ q => absurd q List.not_mem_nil⟩⟩, ⟨fun b o e => ?_, fun b o e => ?_⟩, ?_, ?_⟩
  · rfl
  · constructor
  · wrow_post
  · by_cases n1 : b = 199
    · obtain rfl := Eq.symm n1; rw [TT.a] at e; (first | exact nsF e | exact snF e | obtain rfl := Option.some.inj e | cases e)
      exact .inr (.inl ⟨tab_199 KX1 TT, rfl, #[], p1, rfl, by rw [Array.empty_append]; exact g1⟩)
    by_cases n2 : b = 216
    · obtain rfl := Eq.symm n2; rw [TT.b] at e; (first | exact nsF e | exact snF e | obtain rfl := Option.some.inj e | cases e)
      exact .inr (.inl ⟨tab_216 KX1 TT, rfl, #[], p2, rfl, by rw [Array.empty_append]; exact g2⟩)
    exact .inl (keep b o n1 n2 e)
  · by_cases n1 : b = 199
    · obtain rfl := Eq.symm n1; exact ⟨_, g1⟩
    by_cases n2 : b = 216
    · obtain rfl := Eq.symm n2; exact ⟨_, g2⟩
    exact ⟨o, keep b o n1 n2 e⟩
  · rw [hs]
  · exact .of_eq (by rw [hs]; exact hg)
end
end Mine
end
theorem PySem.Challenge.cw_rt0019_02_holds : PySem.Challenge.rw_rt0019_02.Holds := by
  exact Mine.fin_law fun _ P _ _ _ _ hL hD hn hT1 hT2 => Mine.s_law (n := 13) P hL hD hn hT1 hT2
