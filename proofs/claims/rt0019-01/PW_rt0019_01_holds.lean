import PyProof.Rows.All
import Wide.All
import OpenK.AllK
import Wide.FinOn
import PySem.Challenge.RW_rt0019_01
set_option Elab.async false
set_option compiler.extract_closed false
set_option linter.unusedVariables false
set_option maxRecDepth 100000
set_option maxHeartbeats 8000000
section
open PySem PySem.Calls PyProof.Rows
namespace Mine
def stA (i : Nat) : Stmt := (PySem.Challenge.pw_rt0019_01.main.body[i]?).getD (.Pass default)
def fdOf (s : Stmt) (df kw md : Value) (code : Addr) : FuncData := match s with
  | .FunctionDef name ps body _ _ _ scope _ _ _ => ⟨name, name, ps, .stmts body, scope, 3, [], df, kw, .none, md, none, .ref code, .none, 0⟩
  | _ => default
def fnO (i : Nat) (df kw md : Value) (code : Addr) : Obj := ⟨.type "function", none, .func (fdOf (stA i) df kw md code), (List.toArray [])⟩
noncomputable def KK (P : Params) : PySem.W.Frag := [
  (3, ⟨(.type "dict"), none, (.dict (List.toArray [⟨(PySem.PyData.keyHash P (Str.ofString "__name__")), (.str (Str.ofString "__name__") 165), (.str (Str.ofString "law_rt0019_01") 411)⟩, ⟨(PySem.PyData.keyHash P (Str.ofString "__doc__")), (.str (Str.ofString "__doc__") 166), .none⟩, ⟨(PySem.PyData.keyHash P (Str.ofString "__package__")), (.str (Str.ofString "__package__") 167), .none⟩, ⟨(PySem.PyData.keyHash P (Str.ofString "__loader__")), (.str (Str.ofString "__loader__") 168), (.builtin "__main__.__loader__#opaque")⟩, ⟨(PySem.PyData.keyHash P (Str.ofString "__spec__")), (.str (Str.ofString "__spec__") 169), .none⟩, ⟨(PySem.PyData.keyHash P (Str.ofString "__annotations__")), (.str (Str.ofString "__annotations__") 170), (.ref 6)⟩, ⟨(PySem.PyData.keyHash P (Str.ofString "__builtins__")), (.str (Str.ofString "__builtins__") 171), (.ref 4)⟩, ⟨(PySem.PyData.keyHash P (Str.ofString "__file__")), (.str (Str.ofString "__file__") 173), (.str (Str.ofString "/claim/cut.py") 172)⟩, ⟨(PySem.PyData.keyHash P (Str.ofString "__cached__")), (.str (Str.ofString "__cached__") 174), .none⟩, ⟨(PySem.PyData.keyHash P (Str.ofString "_wall")), (.str (Str.ofString "_wall") 193), (.ref 21)⟩, ⟨(PySem.PyData.keyHash P (Str.ofString "heappush")), (.str (Str.ofString "heappush") 203), (.ref 28)⟩, ⟨(PySem.PyData.keyHash P (Str.ofString "heappop")), (.str (Str.ofString "heappop") 212), (.ref 35)⟩, ⟨(PySem.PyData.keyHash P (Str.ofString "_heapreplace_max")), (.str (Str.ofString "_heapreplace_max") 221), (.ref 42)⟩, ⟨(PySem.PyData.keyHash P (Str.ofString "_heapify_max")), (.str (Str.ofString "_heapify_max") 230), (.ref 49)⟩, ⟨(PySem.PyData.keyHash P (Str.ofString "_siftdown")), (.str (Str.ofString "_siftdown") 242), (.ref 56)⟩, ⟨(PySem.PyData.keyHash P (Str.ofString "_siftup")), (.str (Str.ofString "_siftup") 255), (.ref 63)⟩, ⟨(PySem.PyData.keyHash P (Str.ofString "_siftdown_max")), (.str (Str.ofString "_siftdown_max") 267), (.ref 70)⟩, ⟨(PySem.PyData.keyHash P (Str.ofString "_siftup_max")), (.str (Str.ofString "_siftup_max") 280), (.ref 77)⟩, ⟨(PySem.PyData.keyHash P (Str.ofString "nsmallest")), (.str (Str.ofString "nsmallest") 286), (.ref 83)⟩, ⟨(PySem.PyData.keyHash P (Str.ofString "bytes_types")), (.str (Str.ofString "bytes_types") 289), (.ref 84)⟩, ⟨(PySem.PyData.keyHash P (Str.ofString "_bytes_from_decode_data")), (.str (Str.ofString "_bytes_from_decode_data") 296), (.ref 91)⟩, ⟨(PySem.PyData.keyHash P (Str.ofString "Error")), (.str (Str.ofString "Error") 316), (.ref 101)⟩, ⟨(PySem.PyData.keyHash P (Str.ofString "_ascii_buffer")), (.str (Str.ofString "_ascii_buffer") 324), (.ref 111)⟩, ⟨(PySem.PyData.keyHash P (Str.ofString "_buffer")), (.str (Str.ofString "_buffer") 332), (.ref 118)⟩, ⟨(PySem.PyData.keyHash P (Str.ofString "_truth")), (.str (Str.ofString "_truth") 340), (.ref 125)⟩, ⟨(PySem.PyData.keyHash P (Str.ofString "_B64")), (.str (Str.ofString "_B64") 342), (.bytes (List.toArray [65, 66, 67, 68, 69, 70, 71, 72, 73, 74, 75, 76, 77, 78, 79, 80, 81, 82, 83, 84, 85, 86, 87, 88, 89, 90, 97, 98, 99, 100, 101, 102, 103, 104, 105, 106, 107, 108, 109, 110, 111, 112, 113, 114, 115, 116, 117, 118, 119, 120, 121, 122, 48, 49, 50, 51, 52, 53, 54, 55, 56, 57, 43, 47]) 341)⟩, ⟨(PySem.PyData.keyHash P (Str.ofString "_b64_value")), (.str (Str.ofString "_b64_value") 349), (.ref 132)⟩, ⟨(PySem.PyData.keyHash P (Str.ofString "a2b_base64")), (.str (Str.ofString "a2b_base64") 365), (.ref 140)⟩, ⟨(PySem.PyData.keyHash P (Str.ofString "b2a_base64")), (.str (Str.ofString "b2a_base64") 379), (.ref 148)⟩, ⟨(PySem.PyData.keyHash P (Str.ofString "b64encode")), (.str (Str.ofString "b64encode") 390), (.ref 156)⟩, ⟨(PySem.PyData.keyHash P (Str.ofString "b64decode")), (.str (Str.ofString "b64decode") 399), (.ref 164)⟩, ⟨(PySem.PyData.keyHash P (Str.ofString "_parse_varint")), (.str (Str.ofString "_parse_varint") 410), (.ref 171)⟩, ⟨(PySem.PyData.keyHash P (Str.ofString "_law_ways")), (.str (Str.ofString "_law_ways") 418), (.ref 176)⟩, ⟨(PySem.PyData.keyHash P (Str.ofString "_law_octets")), (.str (Str.ofString "_law_octets") 426), (.ref 183)⟩, ⟨(PySem.PyData.keyHash P (Str.ofString "_law_entry")), (.str (Str.ofString "_law_entry") 435), (.ref 190)⟩, ⟨(PySem.PyData.keyHash P (Str.ofString "_law_label")), (.str (Str.ofString "_law_label") 445), (.ref 197)⟩, ⟨(PySem.PyData.keyHash P (Str.ofString "_law_sums")), (.str (Str.ofString "_law_sums") 451), (.ref 202)⟩, ⟨(PySem.PyData.keyHash P (Str.ofString "_law_search")), (.str (Str.ofString "_law_search") 457), (.ref 207)⟩, ⟨(PySem.PyData.keyHash P (Str.ofString "_law_lengths")), (.str (Str.ofString "_law_lengths") 463), (.ref 212)⟩, ⟨(PySem.PyData.keyHash P (Str.ofString "_law_hubs")), (.str (Str.ofString "_law_hubs") 469), (.ref 217)⟩, ⟨(PySem.PyData.keyHash P (Str.ofString "law")), (.str (Str.ofString "law") 475), (.ref 222)⟩]) 41), (List.toArray [])⟩),
  (27, ⟨(.type "code"), none, (.fields (List.toArray [(.str (Str.ofString "heappush") 196), (.str (Str.ofString "heappush") 197), (.str (Str.ofString "/claim/cut.py") 198), (.int 5 0), (.int 2 0), (.int 0 0), (.int 0 0), (.int 3 0), (.ref 22), (.bool true), (.int 181 0), (.ref 23), .none, (.ref 24), (.ref 25), (.ref 26), (.int 201 0), (.int 5 0), (.str (Str.ofString "/claim/cut.py") 202)])), (List.toArray [])⟩),
  (28, fnO 2 .none .none (.str (Str.ofString "cpy313.heapq") 194) 27),
  (34, ⟨(.type "code"), none, (.fields (List.toArray [(.str (Str.ofString "heappop") 204), (.str (Str.ofString "heappop") 205), (.str (Str.ofString "/claim/cut.py") 206), (.int 8 0), (.int 1 0), (.int 0 0), (.int 0 0), (.int 3 0), (.ref 29), (.bool true), (.int 181 0), (.ref 30), .none, (.ref 31), (.ref 32), (.ref 33), (.int 210 0), (.int 8 0), (.str (Str.ofString "/claim/cut.py") 211)])), (List.toArray [])⟩),
  (35, fnO 3 .none .none (.str (Str.ofString "cpy313.heapq") 194) 34),
  (55, ⟨(.type "code"), none, (.fields (List.toArray [(.str (Str.ofString "_siftdown") 231), (.str (Str.ofString "_siftdown") 232), (.str (Str.ofString "/claim/cut.py") 233), (.int 25 0), (.int 3 0), (.int 0 0), (.int 0 0), (.int 3 0), (.ref 50), (.bool true), (.int 181 0), (.ref 51), .none, (.ref 52), (.ref 53), (.ref 54), (.int 240 0), (.int 25 0), (.str (Str.ofString "/claim/cut.py") 241)])), (List.toArray [])⟩),
  (56, fnO 6 .none .none (.str (Str.ofString "cpy313.heapq") 194) 55),
  (62, ⟨(.type "code"), none, (.fields (List.toArray [(.str (Str.ofString "_siftup") 243), (.str (Str.ofString "_siftup") 244), (.str (Str.ofString "/claim/cut.py") 245), (.int 36 0), (.int 2 0), (.int 0 0), (.int 0 0), (.int 3 0), (.ref 57), (.bool true), (.int 181 0), (.ref 58), .none, (.ref 59), (.ref 60), (.ref 61), (.int 253 0), (.int 36 0), (.str (Str.ofString "/claim/cut.py") 254)])), (List.toArray [])⟩),
  (63, fnO 7 .none .none (.str (Str.ofString "cpy313.heapq") 194) 62),
  (78, ⟨(.type "tuple"), none, (.seq (List.toArray [.none]) 0), (List.toArray [])⟩),
  (82, ⟨(.type "code"), none, (.fields (List.toArray [(.str (Str.ofString "nsmallest") 281), (.str (Str.ofString "nsmallest") 282), (.str (Str.ofString "/claim/cut.py") 283), (.int 75 0), (.int 3 0), (.int 0 0), (.int 0 0), (.int 3 0), (.ref 79), (.bool true), (.int 181 0), (.ref 80), .none, .none, .none, (.ref 81), (.int 284 0), (.int 75 0), (.str (Str.ofString "/claim/cut.py") 285)])), (List.toArray [])⟩),
  (83, fnO 10 (.ref 78) .none (.str (Str.ofString "cpy313.heapq") 194) 82),
  (84, ⟨(.type "tuple"), none, (.seq (List.toArray [(.type "bytes"), (.type "bytearray")]) 0), (List.toArray [])⟩),
  (90, ⟨(.type "code"), none, (.fields (List.toArray [(.str (Str.ofString "_bytes_from_decode_data") 290), (.str (Str.ofString "_bytes_from_decode_data") 291), (.str (Str.ofString "/claim/cut.py") 292), (.int 122 0), (.int 1 0), (.int 0 0), (.int 0 0), (.int 3 0), (.ref 85), (.bool true), (.int 181 0), (.ref 86), .none, (.ref 87), (.ref 88), (.ref 89), (.int 294 0), (.int 122 0), (.str (Str.ofString "/claim/cut.py") 295)])), (List.toArray [])⟩),
  (91, fnO 13 .none .none (.str (Str.ofString "cpy313.base64") 287) 90),
  (110, ⟨(.type "code"), none, (.fields (List.toArray [(.str (Str.ofString "_ascii_buffer") 317), (.str (Str.ofString "_ascii_buffer") 318), (.str (Str.ofString "/claim/cut.py") 319), (.int 137 0), (.int 1 0), (.int 0 0), (.int 0 0), (.int 3 0), (.ref 105), (.bool true), (.int 181 0), (.ref 106), .none, (.ref 107), (.ref 108), (.ref 109), (.int 322 0), (.int 137 0), (.str (Str.ofString "/claim/cut.py") 323)])), (List.toArray [])⟩),
  (111, fnO 16 .none .none (.str (Str.ofString "binascii") 297) 110),
  (117, ⟨(.type "code"), none, (.fields (List.toArray [(.str (Str.ofString "_buffer") 325), (.str (Str.ofString "_buffer") 326), (.str (Str.ofString "/claim/cut.py") 327), (.int 148 0), (.int 1 0), (.int 0 0), (.int 0 0), (.int 3 0), (.ref 112), (.bool true), (.int 181 0), (.ref 113), .none, (.ref 114), (.ref 115), (.ref 116), (.int 330 0), (.int 148 0), (.str (Str.ofString "/claim/cut.py") 331)])), (List.toArray [])⟩),
  (118, fnO 17 .none .none (.str (Str.ofString "binascii") 297) 117),
  (124, ⟨(.type "code"), none, (.fields (List.toArray [(.str (Str.ofString "_truth") 333), (.str (Str.ofString "_truth") 334), (.str (Str.ofString "/claim/cut.py") 335), (.int 155 0), (.int 1 0), (.int 0 0), (.int 0 0), (.int 3 0), (.ref 119), (.bool true), (.int 181 0), (.ref 120), .none, (.ref 121), (.ref 122), (.ref 123), (.int 338 0), (.int 155 0), (.str (Str.ofString "/claim/cut.py") 339)])), (List.toArray [])⟩),
  (125, fnO 18 .none .none (.str (Str.ofString "binascii") 297) 124),
  (131, ⟨(.type "code"), none, (.fields (List.toArray [(.str (Str.ofString "_b64_value") 343), (.str (Str.ofString "_b64_value") 344), (.str (Str.ofString "/claim/cut.py") 345), (.int 161 0), (.int 1 0), (.int 0 0), (.int 0 0), (.int 3 0), (.ref 126), (.bool true), (.int 181 0), (.ref 127), .none, (.ref 128), (.ref 129), (.ref 130), (.int 347 0), (.int 161 0), (.str (Str.ofString "/claim/cut.py") 348)])), (List.toArray [])⟩),
  (132, fnO 20 .none .none (.str (Str.ofString "binascii") 297) 131),
  (133, ⟨(.type "dict"), none, (.dict (List.toArray [⟨(PySem.PyData.keyHash P (Str.ofString "strict_mode")), (.str (Str.ofString "strict_mode") 350), (.bool false)⟩]) 1), (List.toArray [])⟩),
  (139, ⟨(.type "code"), none, (.fields (List.toArray [(.str (Str.ofString "a2b_base64") 351), (.str (Str.ofString "a2b_base64") 352), (.str (Str.ofString "/claim/cut.py") 353), (.int 173 0), (.int 1 0), (.int 1 0), (.int 1 0), (.int 3 0), (.ref 134), (.bool true), (.int 181 0), (.ref 135), .none, (.ref 136), (.ref 137), (.ref 138), (.int 363 0), (.int 173 0), (.str (Str.ofString "/claim/cut.py") 364)])), (List.toArray [])⟩),
  (140, fnO 21 .none (.ref 133) (.str (Str.ofString "binascii") 297) 139),
  (141, ⟨(.type "dict"), none, (.dict (List.toArray [⟨(PySem.PyData.keyHash P (Str.ofString "newline")), (.str (Str.ofString "newline") 366), (.bool true)⟩]) 1), (List.toArray [])⟩),
  (147, ⟨(.type "code"), none, (.fields (List.toArray [(.str (Str.ofString "b2a_base64") 367), (.str (Str.ofString "b2a_base64") 368), (.str (Str.ofString "/claim/cut.py") 369), (.int 227 0), (.int 1 0), (.int 1 0), (.int 1 0), (.int 3 0), (.ref 142), (.bool true), (.int 181 0), (.ref 143), .none, (.ref 144), (.ref 145), (.ref 146), (.int 377 0), (.int 227 0), (.str (Str.ofString "/claim/cut.py") 378)])), (List.toArray [])⟩),
  (148, fnO 22 .none (.ref 141) (.str (Str.ofString "binascii") 297) 147),
  (149, ⟨(.type "tuple"), none, (.seq (List.toArray [.none]) 0), (List.toArray [])⟩),
  (155, ⟨(.type "code"), none, (.fields (List.toArray [(.str (Str.ofString "b64encode") 382), (.str (Str.ofString "b64encode") 383), (.str (Str.ofString "/claim/cut.py") 384), (.int 250 0), (.int 2 0), (.int 0 0), (.int 0 0), (.int 3 0), (.ref 150), (.bool true), (.int 181 0), (.ref 151), .none, (.ref 152), (.ref 153), (.ref 154), (.int 388 0), (.int 250 0), (.str (Str.ofString "/claim/cut.py") 389)])), (List.toArray [])⟩),
  (156, fnO 24 (.ref 149) .none (.str (Str.ofString "cpy313.base64") 380) 155),
  (157, ⟨(.type "tuple"), none, (.seq (List.toArray [.none, (.bool false)]) 0), (List.toArray [])⟩),
  (163, ⟨(.type "code"), none, (.fields (List.toArray [(.str (Str.ofString "b64decode") 391), (.str (Str.ofString "b64decode") 392), (.str (Str.ofString "/claim/cut.py") 393), (.int 256 0), (.int 3 0), (.int 0 0), (.int 0 0), (.int 3 0), (.ref 158), (.bool true), (.int 181 0), (.ref 159), .none, (.ref 160), (.ref 161), (.ref 162), (.int 397 0), (.int 256 0), (.str (Str.ofString "/claim/cut.py") 398)])), (List.toArray [])⟩),
  (164, fnO 25 (.ref 157) .none (.str (Str.ofString "cpy313.base64") 380) 163),
  (170, ⟨(.type "code"), none, (.fields (List.toArray [(.str (Str.ofString "_parse_varint") 402), (.str (Str.ofString "_parse_varint") 403), (.str (Str.ofString "/claim/cut.py") 404), (.int 264 0), (.int 1 0), (.int 0 0), (.int 0 0), (.int 3 0), (.ref 165), (.bool true), (.int 181 0), (.ref 166), .none, (.ref 167), (.ref 168), (.ref 169), (.int 408 0), (.int 264 0), (.str (Str.ofString "/claim/cut.py") 409)])), (List.toArray [])⟩),
  (171, fnO 27 .none .none (.str (Str.ofString "cpy313.dis") 400) 170),
  (175, ⟨(.type "code"), none, (.fields (List.toArray [(.str (Str.ofString "_law_ways") 413), (.str (Str.ofString "_law_ways") 414), (.str (Str.ofString "/claim/cut.py") 415), (.int 273 0), (.int 1 0), (.int 0 0), (.int 0 0), (.int 3 0), (.ref 172), (.bool true), (.int 181 0), (.ref 173), .none, .none, .none, (.ref 174), (.int 416 0), (.int 273 0), (.str (Str.ofString "/claim/cut.py") 417)])), (List.toArray [])⟩),
  (176, fnO 29 .none .none (.str (Str.ofString "law_rt0019_01") 411) 175),
  (182, ⟨(.type "code"), none, (.fields (List.toArray [(.str (Str.ofString "_law_octets") 419), (.str (Str.ofString "_law_octets") 420), (.str (Str.ofString "/claim/cut.py") 421), (.int 276 0), (.int 1 0), (.int 0 0), (.int 0 0), (.int 3 0), (.ref 177), (.bool true), (.int 181 0), (.ref 178), .none, (.ref 179), (.ref 180), (.ref 181), (.int 424 0), (.int 276 0), (.str (Str.ofString "/claim/cut.py") 425)])), (List.toArray [])⟩),
  (183, fnO 30 .none .none (.str (Str.ofString "law_rt0019_01") 411) 182),
  (189, ⟨(.type "code"), none, (.fields (List.toArray [(.str (Str.ofString "_law_entry") 427), (.str (Str.ofString "_law_entry") 428), (.str (Str.ofString "/claim/cut.py") 429), (.int 282 0), (.int 2 0), (.int 0 0), (.int 0 0), (.int 3 0), (.ref 184), (.bool true), (.int 181 0), (.ref 185), .none, (.ref 186), (.ref 187), (.ref 188), (.int 433 0), (.int 282 0), (.str (Str.ofString "/claim/cut.py") 434)])), (List.toArray [])⟩),
  (190, fnO 31 .none .none (.str (Str.ofString "law_rt0019_01") 411) 189),
  (196, ⟨(.type "code"), none, (.fields (List.toArray [(.str (Str.ofString "_law_label") 436), (.str (Str.ofString "_law_label") 437), (.str (Str.ofString "/claim/cut.py") 438), (.int 285 0), (.int 1 0), (.int 0 0), (.int 0 0), (.int 3 0), (.ref 191), (.bool true), (.int 181 0), (.ref 192), .none, (.ref 193), (.ref 194), (.ref 195), (.int 443 0), (.int 285 0), (.str (Str.ofString "/claim/cut.py") 444)])), (List.toArray [])⟩),
  (197, fnO 32 .none .none (.str (Str.ofString "law_rt0019_01") 411) 196),
  (201, ⟨(.type "code"), none, (.fields (List.toArray [(.str (Str.ofString "_law_sums") 446), (.str (Str.ofString "_law_sums") 447), (.str (Str.ofString "/claim/cut.py") 448), (.int 294 0), (.int 2 0), (.int 0 0), (.int 0 0), (.int 3 0), (.ref 198), (.bool true), (.int 181 0), (.ref 199), .none, .none, .none, (.ref 200), (.int 449 0), (.int 294 0), (.str (Str.ofString "/claim/cut.py") 450)])), (List.toArray [])⟩),
  (202, fnO 33 .none .none (.str (Str.ofString "law_rt0019_01") 411) 201),
  (206, ⟨(.type "code"), none, (.fields (List.toArray [(.str (Str.ofString "_law_search") 452), (.str (Str.ofString "_law_search") 453), (.str (Str.ofString "/claim/cut.py") 454), (.int 296 0), (.int 3 0), (.int 0 0), (.int 0 0), (.int 3 0), (.ref 203), (.bool true), (.int 181 0), (.ref 204), .none, .none, .none, (.ref 205), (.int 455 0), (.int 296 0), (.str (Str.ofString "/claim/cut.py") 456)])), (List.toArray [])⟩),
  (207, fnO 34 .none .none (.str (Str.ofString "law_rt0019_01") 411) 206),
  (211, ⟨(.type "code"), none, (.fields (List.toArray [(.str (Str.ofString "_law_lengths") 458), (.str (Str.ofString "_law_lengths") 459), (.str (Str.ofString "/claim/cut.py") 460), (.int 310 0), (.int 1 0), (.int 0 0), (.int 0 0), (.int 3 0), (.ref 208), (.bool true), (.int 181 0), (.ref 209), .none, .none, .none, (.ref 210), (.int 461 0), (.int 310 0), (.str (Str.ofString "/claim/cut.py") 462)])), (List.toArray [])⟩),
  (212, fnO 35 .none .none (.str (Str.ofString "law_rt0019_01") 411) 211),
  (216, ⟨(.type "code"), none, (.fields (List.toArray [(.str (Str.ofString "_law_hubs") 464), (.str (Str.ofString "_law_hubs") 465), (.str (Str.ofString "/claim/cut.py") 466), (.int 321 0), (.int 3 0), (.int 0 0), (.int 0 0), (.int 3 0), (.ref 213), (.bool true), (.int 181 0), (.ref 214), .none, .none, .none, (.ref 215), (.int 467 0), (.int 321 0), (.str (Str.ofString "/claim/cut.py") 468)])), (List.toArray [])⟩),
  (217, fnO 36 .none .none (.str (Str.ofString "law_rt0019_01") 411) 216),
  (221, ⟨(.type "code"), none, (.fields (List.toArray [(.str (Str.ofString "law") 470), (.str (Str.ofString "law") 471), (.str (Str.ofString "/claim/cut.py") 472), (.int 329 0), (.int 1 0), (.int 0 0), (.int 0 0), (.int 3 0), (.ref 218), (.bool true), (.int 181 0), (.ref 219), .none, .none, .none, (.ref 220), (.int 473 0), (.int 329 0), (.str (Str.ofString "/claim/cut.py") 474)])), (List.toArray [])⟩),
  (222, fnO 37 .none .none (.str (Str.ofString "law_rt0019_01") 411) 221)]
def KA : List Addr := [3, 27, 28, 34, 35, 55, 56, 62, 63, 78, 82, 83, 84, 90, 91, 110, 111, 117, 118, 124, 125, 131, 132, 133, 139, 140, 141, 147, 148, 149, 155, 156, 157, 163, 164, 170, 171, 175, 176, 182, 183, 189, 190, 196, 197, 201, 202, 206, 207, 211, 212, 216, 217, 221, 222]
theorem KA_eq : ∀ P, KA = (KK P).map (·.1) := fun P => by kernel_rfl
noncomputable abbrev HK : PySem.W.Hook := PySem.W.kHook KK KA KA_eq
def qV : Program := PySem.W.view PySem.Challenge.pw_rt0019_01 [37]
def looseL : List Str := [Str.ofString "_wall", Str.ofString "heappush", Str.ofString "heappop", Str.ofString "_heapreplace_max", Str.ofString "_heapify_max", Str.ofString "_siftdown", Str.ofString "_siftup", Str.ofString "_siftdown_max", Str.ofString "_siftup_max", Str.ofString "nsmallest", Str.ofString "bytes_types", Str.ofString "_bytes_from_decode_data", Str.ofString "Error", Str.ofString "_ascii_buffer", Str.ofString "_buffer", Str.ofString "_truth", Str.ofString "_B64", Str.ofString "_b64_value", Str.ofString "a2b_base64", Str.ofString "b2a_base64", Str.ofString "b64encode", Str.ofString "b64decode", Str.ofString "_parse_varint", Str.ofString "_law_ways", Str.ofString "_law_octets", Str.ofString "_law_entry", Str.ofString "_law_label", Str.ofString "_law_sums", Str.ofString "_law_search", Str.ofString "_law_lengths", Str.ofString "_law_hubs"]
abbrev pE : Program := PySem.Challenge.rw_rt0019_01.row.prog
abbrev xtF : Shared → Bool := fun s => PySem.W.xlAt qV [] s && PySem.W.recOk (PySem.W.RowW.records PySem.Challenge.rw_rt0019_01.row.toRowW) s
theorem boot_q : PySem.W.opening pE = PySem.W.plainProg pE.main.scope.names := by kernel_rfl
theorem fence_q : ∀ s, fenceModules? pE s = some s := fun s => by kernel_rfl
theorem left_at : ∀ w os, (PySem.W.topFrom treeTable pE w 2438 ⟨PySem.W.boot_heap w.params, Array.mk [], PySem.W.boot_drawn, PySem.W.boot_toks, os⟩).map (fun s => (PySem.W.openSeen qV looseL (importedModules pE.main.body) xtF true s, HK.obs s))
   = some (PySem.W.openGood qV looseL, HK.val w) := fun w os => by
  unfold PySem.W.topFrom
  rw [PySem.W.Fast.te14082659384304107361, PySem.W.Fast.te14364793385576792824, PySem.W.Fast.te4187177175401517315]
  kernel_rfl
theorem left_ok : PySem.W.LeftO pE qV looseL xtF HK.obs HK.val 2438 := fun w => by
  obtain ⟨s, hs, hv⟩ := Option.map_eq_some_iff.mp (PySem.W.boot_open (N := 2438) boot_q (by decide) fence_q w)
  obtain ⟨h, gn, dr, tk, os⟩ := s
  simp only [Prod.mk.injEq] at hv
  obtain ⟨rfl, rfl, rfl, rfl⟩ := hv
  unfold PySem.W.openEnds
  rw [hs, Option.bind_some]
  exact left_at w os
end Mine
end
section
open PySem PySem.Calls PyProof.Rows
namespace Mine
/-- plain values: no tokens, tuples by their items -/
inductive PV where
  | none | bool (b : Bool) | int (i : Int) | bytes (b : List UInt8) | str (s : Str) | tup (xs : List PV) | ref (a : Addr) | type (n : String) | builtin (id : String)
mutual
def Den (h : Heap) : PV → Value → Prop
  | .none, v => v = .none
  | .bool b, v => v = .bool b
  | .int i, v => ∃ t, v = .int i t
  | .bytes b, v => ∃ t, v = .bytes b.toArray t
  | .str x, v => ∃ t, v = .str x t
  | .ref a, v => v = .ref a
  | .type n, v => v = .type n
  | .builtin n, v => v = .builtin n
  | .tup xs, v => ∃ a vs, v = .ref a ∧ h.get? a = some { cls := .type "tuple", data := .seq vs } ∧ DenL h xs vs.toList
def DenL (h : Heap) : List PV → List Value → Prop
  | [], vs => vs = []
  | p :: ps, vs => ∃ v vs', vs = v :: vs' ∧ Den h p v ∧ DenL h ps vs'
end
def TupO (o : Obj) : Prop := o.cls = .type "tuple" ∧ ∃ vs n, o.data = .seq vs n
def TupKeep (h h' : Heap) : Prop := ∀ a o, h.get? a = some o → TupO o → h'.get? a = some o
theorem TupKeep.refl (h : Heap) : TupKeep h h := fun _ o e _ => e
theorem TupKeep.trans {h₁ h₂ h₃ : Heap} (x : TupKeep h₁ h₂) (y : TupKeep h₂ h₃) : TupKeep h₁ h₃ := fun a o e c => y a o (x a o e c) c
/-- the same but for a frame's slots -/
def Kin (o o' : Obj) : Prop := o' = o ∨ ∃ es ep sl, o.data = .dict es ep ∧ o' = { o with slots := sl }
theorem Kin.rfl' {o : Obj} : Kin o o := .inl rfl
theorem Kin.trans {a b c : Obj} (x : Kin a b) (y : Kin b c) : Kin a c := by
  rcases x with rfl | ⟨es, ep, sl, d, rfl⟩
  · exact y
  · rcases y with rfl | ⟨es', ep', sl', d', rfl⟩
    · exact .inr ⟨es, ep, sl, d, rfl⟩
    · exact .inr ⟨es, ep, sl', d, rfl⟩
theorem Kin.of_not {o o' : Obj} (x : Kin o o') (h : ∀ es ep, o.data ≠ .dict es ep) : o' = o := x.elim id fun ⟨es, ep, _, d, _⟩ => absurd d (h es ep)
theorem Kin.data {o o' : Obj} (x : Kin o o') : o'.data = o.data ∧ o'.cls = o.cls ∧ o'.dict = o.dict := by
  rcases x with rfl | ⟨es, ep, sl, d, rfl⟩ <;> exact ⟨rfl, rfl, rfl⟩
mutual
theorem Den.keeps {h h' : Heap} (k : TupKeep h h') : ∀ {p : PV} {v : Value}, Den h p v → Den h' p v
  | .none, _, e => e
  | .bool _, _, e => e
  | .int _, _, e => e
  | .bytes _, _, e => e
  | .str _, _, e => e
  | .ref _, _, e => e
  | .type _, _, e => e
  | .builtin _, _, e => e
  | .tup xs, _, ⟨a, vs, e1, e2, e5⟩ => ⟨a, vs, e1, k a _ e2 ⟨rfl, vs, 0, rfl⟩, DenL.keeps k e5⟩
theorem DenL.keeps {h h' : Heap} (k : TupKeep h h') : ∀ {ps : List PV} {vs : List Value}, DenL h ps vs → DenL h' ps vs
  | [], _, e => e
  | _ :: _, _, ⟨v, vs', e1, e2, e3⟩ => ⟨v, vs', e1, Den.keeps k e2, DenL.keeps k e3⟩
end
theorem DenL.length {h : Heap} : ∀ {ps : List PV} {vs : List Value}, DenL h ps vs → vs.length = ps.length
  | [], vs, e => by rw [show vs = [] from e]; rfl
  | _ :: _, _, ⟨v, vs', e1, e2, e3⟩ => by rw [e1, List.length_cons, List.length_cons, DenL.length e3]
theorem DenL.get {h : Heap} : ∀ {ps : List PV} {vs : List Value} {i : Nat} {p : PV}, DenL h ps vs → ps[i]? = some p → ∃ v, vs[i]? = some v ∧ Den h p v
  | [], _, _, _, _, e => by simp at e
  | _ :: _, _, 0, _, ⟨v, vs', e1, e2, e3⟩, e => by subst e1; simp at e; subst e; exact ⟨v, by simp, e2⟩
  | _ :: _, _, i + 1, _, ⟨v, vs', e1, e2, e3⟩, e => by
    subst e1
    obtain ⟨w, h1, h2⟩ := DenL.get (i := i) e3 (by simpa using e)
    exact ⟨w, by simpa using h1, h2⟩
theorem DenL.get' {h : Heap} : ∀ {ps : List PV} {vs : List Value} {i : Nat} {v : Value}, DenL h ps vs → vs[i]? = some v → ∃ p, ps[i]? = some p ∧ Den h p v
  | [], vs, _, _, e, e' => by rw [show vs = [] from e] at e'; simp at e'
  | p :: _, _, 0, _, ⟨v, vs', e1, e2, e3⟩, e => by subst e1; simp at e; subst e; exact ⟨p, by simp, e2⟩
  | _ :: _, _, i + 1, _, ⟨v, vs', e1, e2, e3⟩, e => by
    subst e1
    obtain ⟨w, h1, h2⟩ := DenL.get' (i := i) e3 (by simpa using e)
    exact ⟨w, by simpa using h1, h2⟩
theorem DenL.append {h : Heap} : ∀ {ps qs : List PV} {vs ws : List Value}, DenL h ps vs → DenL h qs ws → DenL h (ps ++ qs) (vs ++ ws)
  | [], _, _, _, e, e' => by rw [show _ = [] from e]; exact e'
  | _ :: _, _, _, _, ⟨v, vs', e1, e2, e3⟩, e' => by subst e1; exact ⟨v, _, rfl, e2, DenL.append e3 e'⟩
theorem DenL.drop {h : Heap} : ∀ {ps : List PV} {vs : List Value} (n : Nat), DenL h ps vs → DenL h (ps.drop n) (vs.drop n)
  | _, _, 0, e => e
  | [], vs, n + 1, e => by rw [show vs = [] from e]; exact rfl
  | _ :: _, _, n + 1, ⟨v, vs', e1, e2, e3⟩ => by subst e1; exact DenL.drop n e3
theorem DenL.take {h : Heap} : ∀ {ps : List PV} {vs : List Value} (n : Nat), DenL h ps vs → DenL h (ps.take n) (vs.take n)
  | _, _, 0, e => rfl
  | [], vs, n + 1, e => by rw [show vs = [] from e]; exact rfl
  | _ :: _, _, n + 1, ⟨v, vs', e1, e2, e3⟩ => by subst e1; exact ⟨v, _, rfl, e2, DenL.take n e3⟩
theorem DenL.one {h : Heap} {p : PV} {v : Value} (e : Den h p v) : DenL h [p] [v] := ⟨v, [], rfl, e, rfl⟩
theorem DenL.set {h : Heap} : ∀ {ps : List PV} {vs : List Value} (i : Nat) {p : PV} {v : Value}, DenL h ps vs → Den h p v → DenL h (ps.set i p) (vs.set i v)
  | [], vs, i, _, _, e, _ => by rw [show vs = [] from e]; exact rfl
  | _ :: _, _, 0, _, w, ⟨v, vs', e1, e2, e3⟩, e => by subst e1; exact ⟨w, vs', rfl, e, e3⟩
  | _ :: _, _, i + 1, _, w, ⟨v, vs', e1, e2, e3⟩, e => by subst e1; exact ⟨v, _, rfl, e2, DenL.set i e3 e⟩
theorem DenL.cons_inv {h : Heap} {p : PV} {ps : List PV} {v : Value} {vs : List Value} (e : DenL h (p :: ps) (v :: vs)) : Den h p v ∧ DenL h ps vs := by
  obtain ⟨w, ws, e1, e2, e3⟩ := e
  cases e1
  exact ⟨e2, e3⟩
/-- the objects that the call makes and sees -/
inductive AO where
  | list (xs : List PV)
  | rlist (xs : List PV)
  | range (lo hi : Int)
  | biter (b : List UInt8) (i : Nat)
  | liter (l : Addr) (i : Nat)
  | plain
def AO.Is (h : Heap) : AO → Obj → Prop
  | .list xs, o => ∃ vs n, o = { cls := .type "list", data := .seq vs n } ∧ DenL h xs vs.toList
  | .rlist xs, o => o.cls = .type "list" ∧ ∃ vs n, o.data = .seq vs n ∧ DenL h xs vs.toList
  | .range lo hi, o => ∃ t u v, o = { cls := .type "range", data := .fields #[.int lo t, .int hi u, .int 1 v] }
  | .biter b i, o => ∃ t, o = { cls := .type "bytes_iterator", data := .fields #[.bytes b.toArray t, .int i 0] }
  | .liter l i, o => o.cls = .type "list_iterator" ∧ o.data = .fields #[.ref l, .int i 0]
  | .plain, o => o.cls = .type "object" ∧ ∀ vs n, o.data ≠ .dict vs n
theorem AO.Is.keeps {h h' : Heap} (k : TupKeep h h') : ∀ {x : AO} {o : Obj}, x.Is h o → x.Is h' o
  | .list _, _, ⟨vs, n, c, d⟩ => ⟨vs, n, c, d.keeps k⟩
  | .rlist _, _, ⟨a, vs, n, c, d⟩ => ⟨a, vs, n, c, d.keeps k⟩
  | .range .., _, e => e
  | .biter .., _, e => e
  | .liter .., _, e => e
  | .plain, _, e => e
theorem AO.Is.notTup {h : Heap} : ∀ {x : AO} {o : Obj}, x.Is h o → o.cls ≠ .type "tuple"
  | .list _, _, ⟨_, _, a, _⟩ => by rw [a]; simp
  | .rlist _, _, ⟨a, _⟩ => by rw [a]; decide
  | .range .., _, ⟨_, _, _, e⟩ => by rw [e]; simp
  | .biter .., _, ⟨_, e⟩ => by rw [e]; simp
  | .liter .., _, ⟨a, _⟩ => by rw [a]; decide
  | .plain, _, ⟨a, _⟩ => by rw [a]; decide
abbrev Vars := List (Str × PV)
abbrev HF := Addr → Option AO
abbrev RF := Addr → Option Obj
def HF.set (H : HF) (a : Addr) (x : AO) : HF := fun b => if b = a then some x else H b
theorem HF.set_self (H : HF) (a : Addr) (x : AO) : H.set a x a = some x := if_pos rfl
theorem HF.set_other {H : HF} {a b : Addr} {x : AO} (h : b ≠ a) : H.set a x b = H b := if_neg h
theorem HF.set_set (H : HF) (a : Addr) (x y : AO) : (H.set a x).set a y = H.set a y := by
  funext b; by_cases h : b = a <;> simp [HF.set, h]
theorem HF.set_eq {H : HF} {a : Addr} {x : AO} (h : H a = some x) : H.set a x = H := by
  funext b; by_cases e : b = a
  · subst e; rw [HF.set_self, h]
  · rw [HF.set_other e]
theorem HF.set_comm {H : HF} {a b : Addr} {x y : AO} (h : a ≠ b) : (H.set a x).set b y = (H.set b y).set a x := by
  funext c
  unfold HF.set
  by_cases e : c = b
  · by_cases e' : c = a
    · exact absurd (e'.symm.trans e) h
    · rw [if_pos e, if_neg e', if_pos e]
  · by_cases e' : c = a
    · rw [if_neg e, if_pos e', if_pos e']
    · rw [if_neg e, if_neg e', if_neg e', if_neg e]
/-- less is known -/
def HF.Le (H H' : HF) : Prop := ∀ a x, H a = some x → H' a = some x
theorem HF.Le.refl (H : HF) : H.Le H := fun _ _ e => e
theorem HF.Le.trans {H₁ H₂ H₃ : HF} (x : H₁.Le H₂) (y : H₂.Le H₃) : H₁.Le H₃ := fun a z e => y a z (x a z e)
def Vars.Le (m m' : Vars) : Prop := ∀ x p, m.lookup x = some p → m'.lookup x = some p
theorem Vars.Le.refl (m : Vars) : m.Le m := fun _ _ e => e
abbrev Vars.set (m : Vars) (x : Str) (v : PV) : Vars := (x, v) :: m
structure G where
  prog : Program
  w : World
  h₀ : Heap
  glob : Vars
  nolimit : h₀.NoLimit
  names : ∃ mg mb, h₀.Ns mainGlobals mg ∧ h₀.Ns builtinsNs mb ∧ ∀ x p, glob.lookup x = some p → ∃ v, Den h₀ p v ∧ (mg x = some v ∨ (mg x = none ∧ mb x = some v))
/-- heap: the ground, what must stay, what is ours, the frames -/
structure HI (g : G) (Fs : List Addr) (R : RF) (H : HF) (h : Heap) : Prop where
  base : ∀ b o, g.h₀.get? b = some o → h.get? b = some o
  rest : ∀ b o, R b = some o → ∃ o', h.get? b = some o' ∧ Kin o o'
  mine : ∀ a x, H a = some x → g.h₀.get? a = none ∧ R a = none ∧ ∃ o, h.get? a = some o ∧ x.Is h o
  frs : ∀ L ∈ Fs, g.h₀.get? L = none ∧ H L = none ∧ ∃ o es ep, h.get? L = some o ∧ o.data = .dict es ep
/-- the same but for heap and tokens -/
def Same (s s' : Shared) : Prop := s' = { s with heap := s'.heap, toks := s'.toks }
theorem Same.rfl' {s : Shared} : Same s s := by cases s; exact rfl
theorem Same.mk {s : Shared} {h : Heap} {tk : Nat} : Same s { s with heap := h, toks := tk } := rfl
theorem Same.trans {s s' s'' : Shared} (a : Same s s') (b : Same s' s'') : Same s s'' := by
  unfold Same at *; rw [a] at b; exact b
theorem Same.heap {s : Shared} {h : Heap} : Same s { s with heap := h } := rfl
theorem Same.toks {s : Shared} {h : Nat} : Same s { s with toks := h } := rfl
/-- the heap has got more and changed nothing -/
def Ext (h h' : Heap) : Prop := ∀ b o, h.get? b = some o → h'.get? b = some o
theorem Ext.refl (h : Heap) : Ext h h := fun _ _ e => e
theorem Ext.trans {a b c : Heap} (x : Ext a b) (y : Ext b c) : Ext a c := fun _ _ e => y _ _ (x _ _ e)
theorem Ext.push (h : Heap) (o : Obj) : Ext h (h.push o) := fun _ _ e => Heap.get?_push_of_some o e
theorem Ext.tup {h h' : Heap} (k : Ext h h') : TupKeep h h' := fun a o e _ => k a o e
section
variable {g : G} {Fs : List Addr} {R : RF} {H : HF} {h h' : Heap}
theorem HI.ext (I : HI g Fs R H h) (k : Ext h h') : HI g Fs R H h' where
  base := fun b o e => k _ _ (I.base b o e)
  rest := fun b o e => let ⟨o', e', q⟩ := I.rest b o e; ⟨o', k _ _ e', q⟩
  mine := fun a x e => let ⟨p, q, o, ho, hi⟩ := I.mine a x e; ⟨p, q, o, k _ _ ho, hi.keeps k.tup⟩
  frs := fun L hL => let ⟨a, b, o, es, ep, e, d⟩ := I.frs L hL; ⟨a, b, o, es, ep, k _ _ e, d⟩
theorem HI.less {H' : HF} (I : HI g Fs R H h) (k : H'.Le H) : HI g Fs R H' h :=
  { I with
    mine := fun a x e => I.mine a x (k a x e)
    frs := fun L hL => let ⟨a, b, c⟩ := I.frs L hL; ⟨a, (by
      cases e : H' L with
      | none => rfl
      | some x => (rw [k _ _ e] at b; cases b)), c⟩ }
theorem HI.sizeH (I : HI g Fs R H h) : H h.objs.size = none := by
  cases e : H h.objs.size with
  | none => rfl
  | some x =>
    obtain ⟨_, _, o, ho, _⟩ := I.mine _ _ e
    exact absurd (Heap.lt_size ho) (Nat.lt_irrefl _)
theorem HI.sizeR (I : HI g Fs R H h) : R h.objs.size = none := by
  cases e : R h.objs.size with
  | none => rfl
  | some x =>
    obtain ⟨_, e', _⟩ := I.rest _ _ e
    exact absurd (Heap.lt_size e') (Nat.lt_irrefl _)
theorem HI.sizeB (I : HI g Fs R H h) : g.h₀.get? h.objs.size = none := by
  cases e : g.h₀.get? h.objs.size with
  | none => rfl
  | some x => exact absurd (Heap.lt_size (I.base _ _ e)) (Nat.lt_irrefl _)
/-- a new object -/
theorem HI.alloc {x : AO} {o : Obj} (I : HI g Fs R H h) (hx : x.Is h o) (hf : o.isFreed = false) : HI g Fs R (H.set h.objs.size x) (h.push o) := by
  have J := I.ext (Ext.push h o)
  refine { J with mine := fun a y e => ?_, frs := fun L hL => ?_ }
  · by_cases ha : a = h.objs.size
    · subst ha
      rw [HF.set_self] at e; cases e
      exact ⟨I.sizeB, I.sizeR, o, Heap.get?_push_size _ hf, hx.keeps (Ext.push h o).tup⟩
    · rw [HF.set_other ha] at e
      exact J.mine a y e
  · obtain ⟨a, b, o', es, ep, e, d⟩ := I.frs L hL
    exact ⟨a, by rw [HF.set_other (Nat.ne_of_lt (Heap.lt_size e))]; exact b, o', es, ep, Heap.get?_push_of_some _ e, d⟩
theorem HI.tupKeep {a : Addr} {x : AO} (I : HI g Fs R H h) (ha : H a = some x) (hs : Heap.SameBut a h h') : TupKeep h h' := fun b o e c => by
  refine (hs.2 b ?_).trans e
  rintro rfl
  obtain ⟨_, _, o', h1, h2⟩ := I.mine _ _ ha
  rw [e] at h1; cases h1
  exact h2.notTup c.1
/-- an object of ours has changed -/
theorem HI.upd {a : Addr} {x y : AO} {o' : Obj} (I : HI g Fs R H h) (ha : H a = some x) (hs : Heap.SameBut a h h') (ho : h'.get? a = some o') (hy : y.Is h o') :
    HI g Fs R (H.set a y) h' := by
  obtain ⟨hB, hR, _⟩ := I.mine a x ha
  have hk := I.tupKeep ha hs
  refine ⟨fun b o e => (hs.2 b ?_).trans (I.base b o e), fun b o e => ?_, fun b z e => ?_, fun L hL => ?_⟩
  · rintro rfl; rw [hB] at e; cases e
  · obtain ⟨o', e', q⟩ := I.rest b o e
    exact ⟨o', (hs.2 b (by rintro rfl; rw [hR] at e; cases e)).trans e', q⟩
  · by_cases hb : b = a
    · subst hb
      rw [HF.set_self] at e; cases e
      exact ⟨hB, hR, o', ho, hy.keeps hk⟩
    · rw [HF.set_other hb] at e
      obtain ⟨p, q, o, h1, h2⟩ := I.mine b z e
      exact ⟨p, q, o, (hs.2 b hb).trans h1, h2.keeps hk⟩
  · obtain ⟨p, q, o, es, ep, e, d⟩ := I.frs L hL
    have hLa : L ≠ a := by rintro rfl; rw [q] at ha; cases ha
    exact ⟨p, by rw [HF.set_other hLa]; exact q, o, es, ep, (hs.2 L hLa).trans e, d⟩
end
/-- room for n calls within each other -/
def Room (n : Nat) (Fs : List Addr) (A : Around) : Prop :=
  A.handled = none ∧ A.depth + n < 900 ∧ A.units + 20 * n < 9000 ∧ ∃ l, A.frames = some l ∧ l.map (·.frame) = Fs.map some ∧ ∀ e ∈ l, e.scope.kind ≠ .module
@[irreducible] def Op (g : G) (n : Nat) {α β : Type} (P : Heap → Prop) (t : Sem α) (H : HF) (Rel : Heap → β → α → Prop) (Q : β → HF → Prop) : Prop :=
  ∀ (A : Around) (Fs : List Addr) (R : RF) (s : Shared) (E : Value → Shared → Prop), Room n Fs A → HI g Fs R H s.heap → P s.heap →
    wpAny (model g.prog g.w) A t (fun a s' => ∃ b H', Q b H' ∧ Rel s'.heap b a ∧ HI g Fs R H' s'.heap ∧ Same s s') E s
def Eqs {α : Type} (_ : Heap) (b a : α) : Prop := b = a
open Classical in
/-- what the rest keeps, the tuples too -/
noncomputable def tupR (R : RF) (h : Heap) : RF := fun b => match R b with
  | some o => some o
  | none => match h.get? b with
    | some o => if TupO o then some o else none
    | none => none
theorem tupR_of {R : RF} {h : Heap} {b : Addr} {o : Obj} (e : R b = some o) : tupR R h b = some o := by unfold tupR; rw [e]
theorem tupR_none {R : RF} {h : Heap} {b : Addr} (e : tupR R h b = none) : R b = none := by
  cases e' : R b with
  | none => rfl
  | some o => rw [tupR_of e'] at e; cases e
theorem tupR_cases {R : RF} {h : Heap} {b : Addr} {o : Obj} (e : tupR R h b = some o) : R b = some o ∨ (h.get? b = some o ∧ TupO o) := by
  unfold tupR at e
  split at e
  · exact .inl (by rw [← e]; assumption)
  · split at e
    · split at e
      · cases e; exact .inr ⟨by assumption, by assumption⟩
      · cases e
    · cases e
theorem TupO.kin {o o' : Obj} (c : TupO o') (q : Kin o o') : o' = o := q.of_not fun es ep d => by
  obtain ⟨_, vs, n, e⟩ := c
  rw [q.data.1, d] at e; cases e
theorem tupR_keep {R : RF} {h h' : Heap} (rest : ∀ b o, R b = some o → ∃ o', h.get? b = some o' ∧ Kin o o') (k : ∀ b o, tupR R h b = some o → ∃ o', h'.get? b = some o' ∧ Kin o o') : TupKeep h h' := by
  intro a o e c
  cases e' : R a with
  | some o' =>
    obtain ⟨o2, h1, q1⟩ := rest _ _ e'
    rw [e] at h1; cases h1
    have := c.kin q1; subst this
    obtain ⟨o3, h2, q2⟩ := k a o (tupR_of e')
    rw [h2, q2.of_not fun es ep d => by obtain ⟨_, vs, n, e⟩ := c; rw [d] at e; cases e]
  | none =>
    obtain ⟨o3, h2, q2⟩ := k a o (by unfold tupR; rw [e', e]; simp [c])
    rw [h2, q2.of_not fun es ep d => by obtain ⟨_, vs, n, e⟩ := c; rw [d] at e; cases e]
theorem HI.tupR {g : G} {Fs : List Addr} {R : RF} {H : HF} {h : Heap} (I : HI g Fs R H h) : HI g Fs (tupR R h) H h :=
  { I with
    rest := fun b o e => (tupR_cases e).elim (I.rest b o) fun e => ⟨o, e.1, .rfl'⟩
    mine := fun a x e => by
      obtain ⟨p, q, o, h1, h2⟩ := I.mine a x e
      refine ⟨p, ?_, o, h1, h2⟩
      cases e' : Mine.tupR R h a with
      | none => rfl
      | some o' =>
        rcases tupR_cases e' with e' | ⟨e', c⟩
        · rw [q] at e'; cases e'
        · rw [h1] at e'; cases e'; exact absurd c.1 h2.notTup }
theorem HI.untup {g : G} {Fs : List Addr} {R : RF} {H : HF} {h h' : Heap} (I : HI g Fs (Mine.tupR R h) H h') : HI g Fs R H h' :=
  { I with
    rest := fun b o e => I.rest b o (tupR_of e)
    mine := fun a x e => let ⟨p, q, r⟩ := I.mine a x e; ⟨p, tupR_none q, r⟩ }
section
variable {g : G} {n : Nat} {α β γ δ : Type} {P P' : Heap → Prop} {t : Sem α} {H : HF} {Rel : Heap → β → α → Prop} {Q Q' : β → HF → Prop}
theorem Op.mk (h : ∀ (A : Around) (Fs : List Addr) (R : RF) (s : Shared) (E : Value → Shared → Prop), Room n Fs A → HI g Fs R H s.heap → P s.heap →
    wpAny (model g.prog g.w) A t (fun a s' => ∃ b H', Q b H' ∧ Rel s'.heap b a ∧ HI g Fs R H' s'.heap ∧ Same s s') E s) : Op g n P t H Rel Q := by
  unfold Op; exact h
theorem Op.run (h : Op g n P t H Rel Q) {A : Around} {Fs : List Addr} {R : RF} {s : Shared} {E : Value → Shared → Prop} (r : Room n Fs A) (I : HI g Fs R H s.heap) (p : P s.heap) :
    wpAny (model g.prog g.w) A t (fun a s' => ∃ b H', Q b H' ∧ Rel s'.heap b a ∧ HI g Fs R H' s'.heap ∧ Same s s' ∧ TupKeep s.heap s'.heap) E s := by
  unfold Op at h
  refine wpAny_mono (h A Fs (tupR R s.heap) s E r I.tupR p) (fun a s' x => ?_) fun _ _ x => x
  obtain ⟨b, H', h1, h2, h3, h4⟩ := x
  exact ⟨b, H', h1, h2, h3.untup, h4, tupR_keep I.rest h3.rest⟩
end
end Mine
end
section
open PySem PySem.Calls PyProof.Rows
namespace Mine
structure Cx where
  g : G
  n : Nat
  tp : Bool
  ow : Str → Bool
  sc : Scope
structure EnvOK (c : Cx) (A : Around) (env : Env) : Prop where
  scope : env.scope = c.sc
  kind : c.sc.kind = .function
  globals : env.globals = mainGlobals
  builtins : env.builtins = builtinsNs
  top : c.tp = true → ∃ outer, A.frames = some (env :: outer) ∧ env.frame = some env.locals
def kindIn (c : Cx) (x : Str) : Option NameKind := c.sc.names.lookup x
structure Inv (c : Cx) (env : Env) (Fs : List Addr) (R : RF) (m : Vars) (H : HF) (h : Heap) : Prop where
  hi : HI c.g Fs R H h
  locR : R env.locals = none
  locB : c.g.h₀.get? env.locals = none
  locH : H env.locals = none
  locs : ∃ mv, h.Ns env.locals mv ∧ ∀ x p, m.lookup x = some p → kindIn c x = some .local → ∃ v, mv x = some v ∧ Den h p v
  cels : ∀ x, (kindIn c x = some .cell ∨ kindIn c x = some .free) → ∃ a v, env.cells.lookup x = some a ∧ h.IsCell a v ∧ ∀ p, m.lookup x = some p → ∃ w, v = some w ∧ Den h p w
  celH : ∀ x a, env.cells.lookup x = some a → H a = none ∧ ∃ v, h.IsCell a v
  own : ∀ x, kindIn c x = some .cell → c.ow x = true → ∃ a, env.cells.lookup x = some a ∧ R a = none ∧ c.g.h₀.get? a = none ∧ ∀ y d, y ≠ x → env.cells.lookup y = some d → d ≠ a
theorem Heap.Ns.lk {h h' : Heap} {a : Addr} {m : Str → Option Value} (hn : h.Ns a m) (k : ∀ o, h.get? a = some o → ∃ o', h'.get? a = some o' ∧ Kin o o') : h'.Ns a m := by
  obtain ⟨o, es, ep, ho, hd, r⟩ := hn
  obtain ⟨o', ho', q⟩ := k o ho
  exact ⟨o', es, ep, ho', q.data.1.trans hd, r⟩
theorem isCell_lk {h h' : Heap} {a : Addr} {v : Option Value} (hn : h.IsCell a v) (k : ∀ o, h.get? a = some o → ∃ o', h'.get? a = some o' ∧ Kin o o') : h'.IsCell a v := by
  obtain ⟨o, ho, hd⟩ := hn
  obtain ⟨o', ho', q⟩ := k o ho
  exact ⟨o', ho', q.data.1.trans hd⟩
section
variable {c : Cx} {env : Env} {Fs : List Addr} {R : RF} {m m' : Vars} {H H' : HF} {h h' : Heap}
theorem Inv.notTup (I : Inv c env Fs R m H h) {o : Obj} (e : h.get? env.locals = some o) : ¬ TupO o := by
  rintro ⟨_, vs, n, d⟩
  obtain ⟨mv, ⟨o', es, ep, e', d', _⟩, _⟩ := I.locs
  rw [e] at e'; cases e'; rw [d] at d'; cases d'
theorem cell_notTup {a : Addr} {v : Option Value} (I : h.IsCell a v) {o : Obj} (e : h.get? a = some o) : ¬ TupO o := by
  rintro ⟨_, vs, n, d⟩
  obtain ⟨o', e', d'⟩ := I
  rw [e] at e'; cases e'; rw [d] at d'; cases d'
theorem Inv.tupR (I : Inv c env Fs R m H h) : Inv c env Fs (Mine.tupR R h) m H h :=
  { I with
    hi := I.hi.tupR
    locR := by
      cases e : Mine.tupR R h env.locals with
      | none => rfl
      | some o =>
        rcases tupR_cases e with e | ⟨e, q⟩
        · rw [I.locR] at e; cases e
        · exact absurd q (I.notTup e)
    own := fun x hx ho => by
      obtain ⟨a, e1, e2, e3, e4⟩ := I.own x hx ho
      refine ⟨a, e1, ?_, e3, e4⟩
      cases e : Mine.tupR R h a with
      | none => rfl
      | some o =>
        rcases tupR_cases e with e | ⟨e, q⟩
        · rw [e2] at e; cases e
        · obtain ⟨a', v, q1, q2, _⟩ := I.cels x (.inl hx)
          rw [e1] at q1; cases q1
          exact absurd q (cell_notTup q2 e) }
theorem Inv.untup {h₀ : Heap} (I : Inv c env Fs (Mine.tupR R h₀) m H h) : Inv c env Fs R m H h :=
  { I with
    hi := I.hi.untup
    locR := tupR_none I.locR
    own := fun x hx ho => let ⟨a, e1, e2, e3, e4⟩ := I.own x hx ho; ⟨a, e1, tupR_none e2, e3, e4⟩ }
theorem Inv.ext (I : Inv c env Fs R m H h) (k : Ext h h') : Inv c env Fs R m H h' :=
  { I with
    hi := I.hi.ext k
    locs := let ⟨mv, hn, hm⟩ := I.locs; ⟨mv, hn.keeps k, fun x p a b => let ⟨v, q, d⟩ := hm x p a b; ⟨v, q, d.keeps k.tup⟩⟩
    celH := fun x a e => let ⟨q, v, r⟩ := I.celH x a e; ⟨q, v, r.keeps k⟩
    cels := fun x hx => let ⟨a, v, e1, e2, e3⟩ := I.cels x hx; ⟨a, v, e1, e2.keeps k, fun p hp => let ⟨w, q, d⟩ := e3 p hp; ⟨w, q, d.keeps k.tup⟩⟩ }
theorem Inv.less (I : Inv c env Fs R m H h) (km : m'.Le m) (kh : H'.Le H) : Inv c env Fs R m' H' h :=
  { I with
    hi := I.hi.less kh
    locH := (by
      cases e : H' env.locals with
      | none => rfl
      | some x => (have := kh _ _ e; rw [I.locH] at this; cases this))
    celH := fun x a e => ⟨(by
      cases e' : H' a with
      | none => rfl
      | some x => (have := kh _ _ e'; rw [(I.celH _ _ e).1] at this; cases this)), (I.celH x a e).2⟩
    locs := let ⟨mv, hn, hm⟩ := I.locs; ⟨mv, hn, fun x p a b => hm x p (km _ _ a) b⟩
    cels := fun x hx => let ⟨a, v, e1, e2, e3⟩ := I.cels x hx; ⟨a, v, e1, e2, fun p hp => e3 p (km _ _ hp)⟩ }
open Classical in
/-- all else -/
noncomputable def restR (H : HF) (h : Heap) : RF := fun b => if H b = none then h.get? b else none
theorem restR_of {b : Addr} (e : H b = none) : restR H h b = h.get? b := if_pos e
theorem restR_none {b : Addr} {x : AO} (e : H b = some x) : restR H h b = none := if_neg (by rw [e]; simp)
theorem HI.restR {g : G} (I : HI g Fs R H h) : HI g Fs (Mine.restR H h) H h :=
  { I with
    rest := fun b o e => by
      unfold Mine.restR at e
      split at e
      · exact ⟨o, e, .rfl'⟩
      · cases e
    mine := fun a x e => let ⟨p, _, r⟩ := I.mine a x e; ⟨p, restR_none e, r⟩ }
theorem HI.back {g : G} (I : HI g Fs R H h) (J : HI g Fs (Mine.restR H h) H' h') : HI g Fs R H' h' ∧ TupKeep h h' ∧ ∀ b o, H b = none → h.get? b = some o → H' b = none ∧ ∃ o', h'.get? b = some o' ∧ Kin o o' := by
  have key : ∀ b o, H b = none → h.get? b = some o → H' b = none ∧ ∃ o', h'.get? b = some o' ∧ Kin o o' := fun b o e e' => by
    refine ⟨?_, J.rest b o (by rw [restR_of e]; exact e')⟩
    cases q : H' b with
    | none => rfl
    | some x =>
      obtain ⟨_, q2, _⟩ := J.mine b x q
      rw [restR_of e, e'] at q2; cases q2
  have hR : ∀ b o, R b = some o → H b = none := fun b o e => by
    cases q : H b with
    | none => rfl
    | some x =>
      obtain ⟨_, q2, _⟩ := I.mine b x q
      rw [e] at q2; cases q2
  refine ⟨{ J with rest := fun b o e => ?_, mine := fun a x e => ?_ }, fun a o e q => ?_, key⟩
  · obtain ⟨o', e', k⟩ := I.rest b o e
    obtain ⟨_, o2, e2, k2⟩ := key b o' (hR b o e) e'
    exact ⟨o2, e2, k.trans k2⟩
  · obtain ⟨p, q, r⟩ := J.mine a x e
    refine ⟨p, ?_, r⟩
    cases z : R a with
    | none => rfl
    | some o =>
      obtain ⟨o', e', _⟩ := I.rest a o z
      rw [restR_of (hR a o z), e'] at q; cases q
  · have hn : H a = none := by
      cases z : H a with
      | none => rfl
      | some x =>
        obtain ⟨_, _, o2, e2, h2⟩ := I.mine a x z
        rw [e] at e2; cases e2
        exact absurd q.1 h2.notTup
    obtain ⟨_, o2, e2, k2⟩ := key a o hn e
    rw [e2, k2.of_not fun es ep d => by obtain ⟨_, vs, n, e⟩ := q; rw [d] at e; cases e]
theorem Inv.back (I : Inv c env Fs R m H h) (J : HI c.g Fs (Mine.restR H h) H' h') : Inv c env Fs R m H' h' ∧ TupKeep h h' := by
  obtain ⟨k1, k2, k3⟩ := I.hi.back J
  refine ⟨?_, k2⟩
  obtain ⟨mv, hn, hm⟩ := I.locs
  have lk : ∀ a, H a = none → ∀ o, h.get? a = some o → ∃ o', h'.get? a = some o' ∧ Kin o o' := fun a ha o e => (k3 a o ha e).2
  exact {
    hi := k1
    locR := I.locR
    locB := I.locB
    locH := by
      obtain ⟨o, _, _, ho, _⟩ := id hn
      exact (k3 _ _ I.locH ho).1
    locs := ⟨mv, Heap.Ns.lk hn (lk _ I.locH), fun x p a b => let ⟨v, q, d⟩ := hm x p a b; ⟨v, q, d.keeps k2⟩⟩
    cels := fun x hx => let ⟨a, v, e1, e2, e3⟩ := I.cels x hx; ⟨a, v, e1, isCell_lk e2 (lk _ (I.celH x a e1).1), fun p hp => let ⟨w, q, d⟩ := e3 p hp; ⟨w, q, d.keeps k2⟩⟩
    celH := fun x a e => by
      obtain ⟨q, v, r⟩ := I.celH x a e
      obtain ⟨o, ho, _⟩ := id r
      exact ⟨(k3 a o q ho).1, v, isCell_lk r (lk _ q)⟩
    own := I.own }
theorem Inv.alloc {x : AO} {o : Obj} (I : Inv c env Fs R m H h) (hx : x.Is h o) (hf : o.isFreed = false) : Inv c env Fs R m (H.set h.objs.size x) (h.push o) := by
  have J := I.ext (Ext.push h o)
  refine { J with hi := I.hi.alloc hx hf, locH := ?_, celH := fun y a e => ?_ }
  · obtain ⟨mv, hn, _⟩ := I.locs
    rw [HF.set_other (Nat.ne_of_lt hn.lt)]; exact I.locH
  · obtain ⟨q, v, r⟩ := I.celH y a e
    refine ⟨?_, (J.celH y a e).2⟩
    rw [HF.set_other (Nat.ne_of_lt r.lt)]; exact q
theorem Inv.push {o : Obj} (I : Inv c env Fs R m H h) : Inv c env Fs R m H (h.push o) := I.ext (Ext.push h o)
end
/-- a step within a frame -/
@[irreducible] def EvM (c : Cx) {α β : Type} (t : Env → Sem α) (m : Vars) (H : HF) (Rel : Heap → β → α → Prop) (Q : β → Vars → HF → Prop) : Prop :=
  ∀ (A : Around) (env : Env) (Fs : List Addr) (R : RF) (s : Shared) (E : Value → Shared → Prop), Room c.n Fs A → EnvOK c A env → Inv c env Fs R m H s.heap →
    wpAny (model c.g.prog c.g.w) A (t env) (fun a s' => ∃ b m' H', Q b m' H' ∧ Rel s'.heap b a ∧ Inv c env Fs R m' H' s'.heap ∧ Same s s') E s
section
variable {c : Cx} {α β γ δ : Type} {t : Env → Sem α} {m : Vars} {H : HF} {Rel : Heap → β → α → Prop} {Q Q' : β → Vars → HF → Prop}
theorem EvM.mk (h : ∀ (A : Around) (env : Env) (Fs : List Addr) (R : RF) (s : Shared) (E : Value → Shared → Prop), Room c.n Fs A → EnvOK c A env → Inv c env Fs R m H s.heap →
    wpAny (model c.g.prog c.g.w) A (t env) (fun a s' => ∃ b m' H', Q b m' H' ∧ Rel s'.heap b a ∧ Inv c env Fs R m' H' s'.heap ∧ Same s s') E s) : EvM c t m H Rel Q := by
  unfold EvM; exact h
theorem EvM.run (h : EvM c t m H Rel Q) {A : Around} {env : Env} {Fs : List Addr} {R : RF} {s : Shared} {E : Value → Shared → Prop} (r : Room c.n Fs A) (eo : EnvOK c A env) (I : Inv c env Fs R m H s.heap) :
    wpAny (model c.g.prog c.g.w) A (t env) (fun a s' => ∃ b m' H', Q b m' H' ∧ Rel s'.heap b a ∧ Inv c env Fs R m' H' s'.heap ∧ Same s s' ∧ TupKeep s.heap s'.heap) E s := by
  unfold EvM at h
  refine wpAny_mono (h A env Fs (tupR R s.heap) s E r eo I.tupR) (fun a s' x => ?_) fun _ _ x => x
  obtain ⟨b, m', H', h1, h2, h3, h4⟩ := x
  exact ⟨b, m', H', h1, h2, h3.untup, h4, tupR_keep I.hi.rest h3.hi.rest⟩
theorem EvM.mono (h : EvM c t m H Rel Q) (k : ∀ b m' H', Q b m' H' → Q' b m' H') : EvM c t m H Rel Q' := by
  refine EvM.mk fun A env Fs R s E r eo I => wpAny_mono (h.run r eo I) (fun a s' x => ?_) fun _ _ x => x
  obtain ⟨b, m', H', h1, h2, h3, h4, _⟩ := x
  exact ⟨b, m', H', k _ _ _ h1, h2, h3, h4⟩
theorem EvM.weak {m' : Vars} {H' : HF} (km : m'.Le m) (k : H'.Le H) (h : EvM c t m' H' Rel Q) : EvM c t m H Rel Q :=
  EvM.mk fun A env Fs R s E r eo I => wpAny_mono (h.run r eo (I.less km k)) (fun a s' x => let ⟨b, m', H', h1, h2, h3, h4, _⟩ := x; ⟨b, m', H', h1, h2, h3, h4⟩) fun _ _ x => x
end
theorem Op.runI {c : Cx} {n : Nat} {α β : Type} {P : Heap → Prop} {t : Sem α} {m : Vars} {H : HF} {Rel : Heap → β → α → Prop} {Q : β → HF → Prop} (h : Op c.g n P t H Rel Q) {A : Around} {env : Env} {Fs : List Addr} {R : RF} {s : Shared} {E : Value → Shared → Prop}
    (r : Room n Fs A) (I : Inv c env Fs R m H s.heap) (p : P s.heap) :
    wpAny (model c.g.prog c.g.w) A t (fun a s' => ∃ b H', Q b H' ∧ Rel s'.heap b a ∧ Inv c env Fs R m H' s'.heap ∧ Same s s' ∧ TupKeep s.heap s'.heap) E s := by
  unfold Op at h
  refine wpAny_mono (h A Fs (restR H s.heap) s E r I.hi.restR p) (fun a s' x => ?_) fun _ _ x => x
  obtain ⟨b, H', h1, h2, h3, h4⟩ := x
  obtain ⟨J, tk⟩ := I.back h3
  exact ⟨b, H', h1, h2, J, h4, tk⟩
inductive Fl where
  | next | brk | cont | ret (v : PV)
def FlRel (h : Heap) : Fl → Flow → Prop
  | .next, f => f = .next
  | .brk, f => f = .brk
  | .cont, f => f = .cont
  | .ret p, f => ∃ v, f = .ret v ∧ Den h p v
def EvE (c : Cx) (e : Expr) (m : Vars) (H : HF) (Q : PV → HF → Prop) : Prop := EvM c (eval e) m H Den (fun p m' H' => m' = m ∧ Q p H')
def EvL (c : Cx) (pos : Pos) (es : List Expr) (m : Vars) (H : HF) (Q : List PV → HF → Prop) : Prop := EvM c (fun env => spliced (backTo pos (starEach es env))) m H DenL (fun p m' H' => m' = m ∧ Q p H')
def EvT (c : Cx) (e : Expr) (m : Vars) (H : HF) (Q : Bool → HF → Prop) : Prop := EvM c (fun env => isTrue e env (eval e env)) m H Eqs (fun p m' H' => m' = m ∧ Q p H')
def EvTs (c : Cx) (op : BoolOp) (es : List Expr) (m : Vars) (H : HF) (Q : Bool → HF → Prop) : Prop := EvM c (fun env => allTrue op es env) m H Eqs (fun p m' H' => m' = m ∧ Q p H')
def EvA (c : Cx) (e : Expr) (v : PV) (m : Vars) (H : HF) (Q : Vars → HF → Prop) : Prop :=
  ∀ (A : Around) (env : Env) (Fs : List Addr) (R : RF) (s : Shared) (E : Value → Shared → Prop) (w : Value), Room c.n Fs A → EnvOK c A env → Inv c env Fs R m H s.heap → Den s.heap v w →
    wpAny (model c.g.prog c.g.w) A (assign e env w) (fun _ s' => ∃ m' H', Q m' H' ∧ Inv c env Fs R m' H' s'.heap ∧ Same s s' ∧ TupKeep s.heap s'.heap) E s
def EvS (c : Cx) (e : Stmt) (m : Vars) (H : HF) (Q : Fl → Vars → HF → Prop) : Prop := EvM c (exec e) m H FlRel Q
def EvSs (c : Cx) (e : List Stmt) (m : Vars) (H : HF) (Q : Fl → Vars → HF → Prop) : Prop := EvM c (execs e) m H FlRel Q
theorem EvE.mono {c e m H Q Q'} (h : EvE c e m H Q) (k : ∀ p H', Q p H' → Q' p H') : EvE c e m H Q' := EvM.mono h fun _ _ _ ⟨a, b⟩ => ⟨a, k _ _ b⟩
theorem EvT.mono {c e m H Q Q'} (h : EvT c e m H Q) (k : ∀ p H', Q p H' → Q' p H') : EvT c e m H Q' := EvM.mono h fun _ _ _ ⟨a, b⟩ => ⟨a, k _ _ b⟩
theorem EvS.mono {c e m H Q Q'} (h : EvS c e m H Q) (k : ∀ p m' H', Q p m' H' → Q' p m' H') : EvS c e m H Q' := EvM.mono h k
section
variable {c : Cx} {A : Around} {env : Env} {Fs : List Addr} {R : RF} {m : Vars} {H : HF} {s : Shared} {E : Value → Shared → Prop}
theorem EvE.run {e : Expr} {Q : PV → HF → Prop} (h : EvE c e m H Q) (r : Room c.n Fs A) (eo : EnvOK c A env) (I : Inv c env Fs R m H s.heap) :
    wpAny (model c.g.prog c.g.w) A (eval e env) (fun a s' => ∃ p H', Q p H' ∧ Den s'.heap p a ∧ Inv c env Fs R m H' s'.heap ∧ Same s s' ∧ TupKeep s.heap s'.heap) E s := by
  refine wpAny_mono (EvM.run h r eo I) (fun a s' x => ?_) fun _ _ x => x
  obtain ⟨p, m', H', ⟨rfl, h1⟩, h2, h3, h4⟩ := x
  exact ⟨p, H', h1, h2, h3, h4⟩
theorem EvL.run {pos : Pos} {e : List Expr} {Q : List PV → HF → Prop} (h : EvL c pos e m H Q) (r : Room c.n Fs A) (eo : EnvOK c A env) (I : Inv c env Fs R m H s.heap) :
    wpAny (model c.g.prog c.g.w) A (spliced (backTo pos (starEach e env))) (fun a s' => ∃ p H', Q p H' ∧ DenL s'.heap p a ∧ Inv c env Fs R m H' s'.heap ∧ Same s s' ∧ TupKeep s.heap s'.heap) E s := by
  refine wpAny_mono (EvM.run h r eo I) (fun a s' x => ?_) fun _ _ x => x
  obtain ⟨p, m', H', ⟨rfl, h1⟩, h2, h3, h4⟩ := x
  exact ⟨p, H', h1, h2, h3, h4⟩
theorem EvT.run {e : Expr} {Q : Bool → HF → Prop} (h : EvT c e m H Q) (r : Room c.n Fs A) (eo : EnvOK c A env) (I : Inv c env Fs R m H s.heap) :
    wpAny (model c.g.prog c.g.w) A (isTrue e env (eval e env)) (fun a s' => ∃ H', Q a H' ∧ Inv c env Fs R m H' s'.heap ∧ Same s s' ∧ TupKeep s.heap s'.heap) E s := by
  refine wpAny_mono (EvM.run h r eo I) (fun a s' x => ?_) fun _ _ x => x
  obtain ⟨p, m', H', ⟨rfl, h1⟩, rfl, h3, h4⟩ := x
  exact ⟨H', h1, h3, h4⟩
theorem EvTs.run {op : BoolOp} {e : List Expr} {Q : Bool → HF → Prop} (h : EvTs c op e m H Q) (r : Room c.n Fs A) (eo : EnvOK c A env) (I : Inv c env Fs R m H s.heap) :
    wpAny (model c.g.prog c.g.w) A (allTrue op e env) (fun a s' => ∃ H', Q a H' ∧ Inv c env Fs R m H' s'.heap ∧ Same s s' ∧ TupKeep s.heap s'.heap) E s := by
  refine wpAny_mono (EvM.run h r eo I) (fun a s' x => ?_) fun _ _ x => x
  obtain ⟨p, m', H', ⟨rfl, h1⟩, rfl, h3, h4⟩ := x
  exact ⟨H', h1, h3, h4⟩
theorem EvE.mk {e : Expr} {Q : PV → HF → Prop} (h : ∀ (A : Around) (env : Env) (Fs : List Addr) (R : RF) (s : Shared) (E : Value → Shared → Prop), Room c.n Fs A → EnvOK c A env → Inv c env Fs R m H s.heap →
    wpAny (model c.g.prog c.g.w) A (eval e env) (fun a s' => ∃ p H', Q p H' ∧ Den s'.heap p a ∧ Inv c env Fs R m H' s'.heap ∧ Same s s') E s) : EvE c e m H Q :=
  EvM.mk fun A env Fs R s E r eo I => wpAny_mono (h A env Fs R s E r eo I) (fun a s' ⟨p, H', h1, h2, h3, h4⟩ => ⟨p, m, H', ⟨rfl, h1⟩, h2, h3, h4⟩) fun _ _ x => x
theorem EvL.mk {pos : Pos} {e : List Expr} {Q : List PV → HF → Prop} (h : ∀ (A : Around) (env : Env) (Fs : List Addr) (R : RF) (s : Shared) (E : Value → Shared → Prop), Room c.n Fs A → EnvOK c A env → Inv c env Fs R m H s.heap →
    wpAny (model c.g.prog c.g.w) A (spliced (backTo pos (starEach e env))) (fun a s' => ∃ p H', Q p H' ∧ DenL s'.heap p a ∧ Inv c env Fs R m H' s'.heap ∧ Same s s') E s) : EvL c pos e m H Q :=
  EvM.mk fun A env Fs R s E r eo I => wpAny_mono (h A env Fs R s E r eo I) (fun a s' ⟨p, H', h1, h2, h3, h4⟩ => ⟨p, m, H', ⟨rfl, h1⟩, h2, h3, h4⟩) fun _ _ x => x
theorem EvT.mk {e : Expr} {Q : Bool → HF → Prop} (h : ∀ (A : Around) (env : Env) (Fs : List Addr) (R : RF) (s : Shared) (E : Value → Shared → Prop), Room c.n Fs A → EnvOK c A env → Inv c env Fs R m H s.heap →
    wpAny (model c.g.prog c.g.w) A (isTrue e env (eval e env)) (fun a s' => ∃ H', Q a H' ∧ Inv c env Fs R m H' s'.heap ∧ Same s s') E s) : EvT c e m H Q :=
  EvM.mk fun A env Fs R s E r eo I => wpAny_mono (h A env Fs R s E r eo I) (fun a s' ⟨H', h1, h3, h4⟩ => ⟨a, m, H', ⟨rfl, h1⟩, rfl, h3, h4⟩) fun _ _ x => x
theorem EvTs.mk {op : BoolOp} {e : List Expr} {Q : Bool → HF → Prop} (h : ∀ (A : Around) (env : Env) (Fs : List Addr) (R : RF) (s : Shared) (E : Value → Shared → Prop), Room c.n Fs A → EnvOK c A env → Inv c env Fs R m H s.heap →
    wpAny (model c.g.prog c.g.w) A (allTrue op e env) (fun a s' => ∃ H', Q a H' ∧ Inv c env Fs R m H' s'.heap ∧ Same s s') E s) : EvTs c op e m H Q :=
  EvM.mk fun A env Fs R s E r eo I => wpAny_mono (h A env Fs R s E r eo I) (fun a s' ⟨H', h1, h3, h4⟩ => ⟨a, m, H', ⟨rfl, h1⟩, rfl, h3, h4⟩) fun _ _ x => x
end
end Mine
end
section
open PySem PySem.Calls PyProof.Rows
namespace Mine
def BinO (g : G) (n : Nat) (op : Operator) (a b : PV) (H : HF) (Q : PV → HF → Prop) : Prop := ∀ va vb, Op g n (fun h => Den h a va ∧ Den h b vb) (binaryOp op va vb) H Den Q
def IBinO (g : G) (n : Nat) (op : Operator) (a b : PV) (H : HF) (Q : PV → HF → Prop) : Prop := ∀ va vb, Op g n (fun h => Den h a va ∧ Den h b vb) (inplaceOp op va vb) H Den Q
def CmpO (g : G) (n : Nat) (op : CmpOp) (a b : PV) (H : HF) (Q : PV → HF → Prop) : Prop := ∀ va vb, Op g n (fun h => Den h a va ∧ Den h b vb) (compareOp op va vb) H Den Q
def TruO (g : G) (n : Nat) (a : PV) (H : HF) (Q : Bool → HF → Prop) : Prop := ∀ va, Op g n (fun h => Den h a va) (truthy va) H Eqs Q
def UnO (g : G) (n : Nat) (op : UnaryOp) (a : PV) (H : HF) (Q : PV → HF → Prop) : Prop := ∀ va, Op g n (fun h => Den h a va) (unaryOp op va) H Den Q
def SubO (g : G) (n : Nat) (value slice : Expr) (o i : PV) (H : HF) (Q : PV → HF → Prop) : Prop := ∀ vo vi, Op g n (fun h => Den h o vo ∧ Den h i vi) (subscriptTail value slice vo vi) H Den Q
def SliO (g : G) (n : Nat) (value slice : Expr) (o l u st : PV) (H : HF) (Q : PV → HF → Prop) : Prop :=
  ∀ vo vl vu vs i, Op g n (fun h => Den h o vo ∧ Den h l vl ∧ Den h u vu ∧ Den h st vs ∧ h.get? i = some { cls := .type "slice", data := .fields #[vl, vu, vs] }) (subscriptTail value slice vo (.ref i)) H Den Q
def SetO (g : G) (n : Nat) (o i v : PV) (H : HF) (Q : HF → Prop) : Prop := ∀ vo vi vv, Op g n (fun h => Den h o vo ∧ Den h i vi ∧ Den h v vv) (setItem vo vi vv) H Eqs (fun (_ : Unit) H' => Q H')
def Calls (g : G) (n : Nat) (f : PV) (vs : List PV) (kw : List (Str × PV)) (H : HF) (Q : PV → HF → Prop) : Prop :=
  ∀ fv vvs kvs, Op g n (fun h => Den h f fv ∧ DenL h vs vvs ∧ DenL h (kw.map (·.2)) kvs) (call fv vvs ((kw.map (·.1)).zip kvs)) H Den Q
def varKind : Option NameKind → Bool
  | some .local => true
  | some .cell => true
  | some .free => true
  | _ => false
section
variable {c : Cx} {m : Vars} {H : HF} {Q : PV → HF → Prop}
theorem EvE_int {i : Int} {k : Nat} {pos : Pos} (h : Q (.int i) H) : EvE c (.Constant (.int i) k pos) m H Q :=
  EvE.mk fun A env Fs R s E r eo I => wpAny_Constant_int ⟨.int i, H, h, ⟨_, rfl⟩, I, Same.toks⟩
theorem EvE_none {k : Nat} {pos : Pos} (h : Q .none H) : EvE c (.Constant .none k pos) m H Q :=
  EvE.mk fun A env Fs R s E r eo I => wpAny_Constant_none ⟨.none, H, h, rfl, I, Same.rfl'⟩
theorem EvE_bool {b : Bool} {k : Nat} {pos : Pos} (h : Q (.bool b) H) : EvE c (.Constant (.bool b) k pos) m H Q :=
  EvE.mk fun A env Fs R s E r eo I => wpAny_Constant_bool ⟨.bool b, H, h, rfl, I, Same.rfl'⟩
theorem EvE_bytes {b : List UInt8} {k : Nat} {pos : Pos} (h : Q (.bytes b) H) : EvE c (.Constant (.bytes b) k pos) m H Q :=
  EvE.mk fun A env Fs R s E r eo I => fun _ _ _ => ⟨.bytes b, H, h, ⟨_, rfl⟩, I, Same.toks⟩
theorem EvE_var {x : Str} {pos : Pos} {v : PV} (hk : varKind (kindIn c x) = true) (hv : m.lookup x = some v) (hd : (x == ("__debug__" : Str) || x == ("__classdict__" : Str)) = false) (h : Q v H) : EvE c (.Name x pos) m H Q := by
  refine EvE.mk fun A env Fs R s E r eo I => ?_
  obtain ⟨hd1, hd2⟩ := Bool.or_eq_false_iff.mp hd
  refine wpAny_Name ?_ hd1
  have hkf : env.scope.kind = .function := by rw [eo.scope]; exact eo.kind
  have hkx : env.kindOf x = kindIn c x := by unfold Env.kindOf kindIn; rw [eo.scope]
  cases e : kindIn c x with
  | none => rw [e] at hk; cases hk
  | some k =>
    rw [e] at hkx
    cases k with
    | «local» =>
      obtain ⟨mv, hn, hm⟩ := I.locs
      obtain ⟨w, hw, d⟩ := hm x v hv e
      exact wpAny_loadName_local hkf hkx hn hw ⟨v, H, h, d, I, Same.rfl'⟩
    | cell =>
      obtain ⟨a, v', h1, h2, h3⟩ := I.cels x (.inl e)
      obtain ⟨w, rfl, d⟩ := h3 v hv
      exact wpAny_loadName_cell hkf hkx h1 h2 ⟨v, H, h, d, I, Same.rfl'⟩
    | free =>
      obtain ⟨a, v', h1, h2, h3⟩ := I.cels x (.inr e)
      obtain ⟨w, rfl, d⟩ := h3 v hv
      exact wpAny_loadName_free hkf hkx h1 h2 ⟨v, H, h, d, I, Same.rfl'⟩ hd2
    | _ => rw [e] at hk; cases hk
theorem EvE_glob {x : Str} {pos : Pos} {v : PV} (hk : kindIn c x = some .globalImplicit) (hv : c.g.glob.lookup x = some v) (hd : (x == ("__debug__" : Str)) = false) (h : Q v H) : EvE c (.Name x pos) m H Q := by
  refine EvE.mk fun A env Fs R s E r eo I => ?_
  have hkf : env.scope.kind = .function := by rw [eo.scope]; exact eo.kind
  have hkx : env.kindOf x = some .globalImplicit := by unfold Env.kindOf; rw [eo.scope]; exact hk
  refine Name_function_global hkf hkx ?_ hd
  obtain ⟨mg, mb, n1, n2, hn⟩ := c.g.names
  obtain ⟨w, d, hw⟩ := hn x v hv
  have d' : Den s.heap v w := d.keeps fun a o e _ => I.hi.base a o e
  rcases hw with hw | ⟨hw, hw'⟩
  · exact loadGlobal_global (by rw [eo.globals]; exact n1.keeps I.hi.base) hw ⟨v, H, h, d', I, Same.rfl'⟩
  · exact loadGlobal_builtin (by rw [eo.globals]; exact n1.keeps I.hi.base) hw (by rw [eo.builtins]; exact n2.keeps I.hi.base) hw' ⟨v, H, h, d', I, Same.rfl'⟩
theorem EvE_BinOp {l : Expr} {op : Operator} {r : Expr} {pos : Pos} (h : EvE c l m H fun a H1 => EvE c r m H1 fun b H2 => BinO c.g c.n op a b H2 Q) : EvE c (.BinOp l op r pos) m H Q := by
  refine EvE.mk fun A env Fs R s E r eo I => wpAny_BinOp ?_
  refine wpAny_mono (EvE.run h r eo I) (fun a s1 ⟨p1, H1, q1, d1, I1, e1, k1⟩ => ?_) fun _ _ x => x
  refine wpAny_mono (EvE.run q1 r eo I1) (fun b s2 ⟨p2, H2, q2, d2, I2, e2, k2⟩ => ?_) fun _ _ x => x
  refine wpAny_mono (Op.runI (q2 a b) r I2 ⟨d1.keeps k2, d2⟩) (fun v s3 ⟨p3, H3, q3, d3, I3, e3, k3⟩ => ?_) fun _ _ x => x
  exact ⟨p3, H3, q3, d3, I3, (e1.trans e2).trans e3⟩
theorem EvE_UnaryOp {op : UnaryOp} {x : Expr} {pos : Pos} (h : EvE c x m H fun a H1 => UnO c.g c.n op a H1 Q) : EvE c (.UnaryOp op x pos) m H Q := by
  refine EvE.mk fun A env Fs R s E r eo I => wpAny_UnaryOp ?_
  refine wpAny_mono (EvE.run h r eo I) (fun a s1 ⟨p1, H1, q1, d1, I1, e1, k1⟩ => ?_) fun _ _ x => x
  refine wpAny_mono (Op.runI (q1 a) r I1 d1) (fun v s3 ⟨p3, H3, q3, d3, I3, e3, k3⟩ => ?_) fun _ _ x => x
  exact ⟨p3, H3, q3, d3, I3, e1.trans e3⟩
theorem EvE_IfExp {t b o : Expr} {pos : Pos} (h : EvT c t m H fun t H1 => (t = true → EvE c b m H1 Q) ∧ (t = false → EvE c o m H1 Q)) : EvE c (.IfExp t b o pos) m H Q := by
  refine EvE.mk fun A env Fs R s E r eo I => wpAny_IfExp ?_
  refine wpAny_mono (EvT.run h r eo I) (fun a s1 ⟨H1, q1, I1, e1, k1⟩ => ?_) fun _ _ x => x
  cases a with
  | true => exact wpAny_mono (EvE.run (q1.1 rfl) r eo I1) (fun v s3 ⟨p3, H3, q3, d3, I3, e3, k3⟩ => ⟨p3, H3, q3, d3, I3, e1.trans e3⟩) fun _ _ x => x
  | false => exact wpAny_mono (EvE.run (q1.2 rfl) r eo I1) (fun v s3 ⟨p3, H3, q3, d3, I3, e3, k3⟩ => ⟨p3, H3, q3, d3, I3, e1.trans e3⟩) fun _ _ x => x
theorem EvL_nil {pos : Pos} {Q : List PV → HF → Prop} (h : Q [] H) : EvL c pos [] m H Q :=
  EvL.mk fun A env Fs R s E r eo I => wpAny_items_nil ⟨[], H, h, rfl, I, Same.rfl'⟩
def isStar : Expr → Bool
  | .Starred .. => true
  | _ => false
theorem star_of {e : Expr} (h : isStar e = false) (rest : List Expr) (env : Env) : starEach (e :: rest) env = (false, eval e env) :: starEach rest env := by
  cases e <;> first | rfl | cases h
theorem EvL_cons {pos : Pos} {e : Expr} {rest : List Expr} {Q : List PV → HF → Prop} (hs : isStar e = false) (h : EvE c e m H fun v H1 => EvL c pos rest m H1 fun vs H2 => Q (v :: vs) H2) : EvL c pos (e :: rest) m H Q := by
  refine EvL.mk fun A env Fs R s E r eo I => wpAny_items_cons ?_ (star_of hs rest env)
  refine wpAny_mono (EvE.run h r eo I) (fun a s1 ⟨p1, H1, q1, d1, I1, e1, k1⟩ => ?_) fun _ _ x => x
  refine wpAny_mono (EvL.run q1 r eo I1) (fun b s2 ⟨p2, H2, q2, d2, I2, e2, k2⟩ => ?_) fun _ _ x => x
  exact ⟨p1 :: p2, H2, q2, ⟨a, b, rfl, d1.keeps k2, d2⟩, I2, e1.trans e2⟩
theorem sizeL (n : Nat) (h : n ≤ 100000) : n ≤ sizeLine := Nat.le_trans h (by rw [sizeLine_eq]; omega)
theorem EvE_Tuple {es : List Expr} {k : Nat} {pos : Pos} (h : EvL c pos es m H fun vs H1 => vs.length ≤ 100000 ∧ Q (.tup vs) H1) : EvE c (.Tuple es k pos) m H Q := by
  refine EvE.mk fun A env Fs R s E r eo I => wpAny_Tuple ?_
  refine wpAny_mono (EvL.run h r eo I) (fun a s1 ⟨p1, H1, q1, d1, I1, e1, k1⟩ => ?_) fun _ _ x => x
  refine ⟨by rw [d1.length]; exact sizeL _ q1.1, .tup p1, H1, q1.2, ?_, I1.push, e1.trans Same.heap⟩
  exact ⟨_, _, rfl, Heap.get?_push_size _ rfl, DenL.keeps (Ext.push _ _).tup (by simpa using d1)⟩
theorem EvE_List {es : List Expr} {pos : Pos} (h : EvL c pos es m H fun vs H1 => vs.length ≤ 100000 ∧ ∀ a, H1 a = none → Q (.ref a) (H1.set a (.list vs))) : EvE c (.List es pos) m H Q := by
  refine EvE.mk fun A env Fs R s E r eo I => wpAny_List ?_
  refine wpAny_mono (EvL.run h r eo I) (fun a s1 ⟨p1, H1, q1, d1, I1, e1, k1⟩ => ?_) fun _ _ x => x
  refine ⟨by rw [d1.length]; exact sizeL _ q1.1, .ref s1.heap.objs.size, _, q1.2 _ I1.hi.sizeH, rfl, I1.alloc (x := .list p1) ⟨_, _, rfl, by simpa using d1⟩ rfl, e1.trans Same.heap⟩
theorem EvE_Subscript {v i : Expr} {pos : Pos} (h : EvE c v m H fun o H1 => EvE c i m H1 fun k H2 => SubO c.g c.n v i o k H2 Q) : EvE c (.Subscript v i pos) m H Q := by
  refine EvE.mk fun A env Fs R s E r eo I => Subscript_ ?_
  refine wpAny_mono (EvE.run h r eo I) (fun a s1 ⟨p1, H1, q1, d1, I1, e1, k1⟩ => ?_) fun _ _ x => x
  refine wpAny_mono (EvE.run q1 r eo I1) (fun b s2 ⟨p2, H2, q2, d2, I2, e2, k2⟩ => ?_) fun _ _ x => x
  refine wpAny_mono (Op.runI (q2 a b) r I2 ⟨d1.keeps k2, d2⟩) (fun v s3 ⟨p3, H3, q3, d3, I3, e3, k3⟩ => ?_) fun _ _ x => x
  exact ⟨p3, H3, q3, d3, I3, (e1.trans e2).trans e3⟩
def EvO (c : Cx) (e : Option Expr) (m : Vars) (H : HF) (Q : PV → HF → Prop) : Prop := EvM c (fun env => valueOrNone (evalOpt e env)) m H Den (fun p m' H' => m' = m ∧ Q p H')
theorem EvO_none (h : Q .none H) : EvO c none m H Q :=
  EvM.mk fun A env Fs R s E r eo I => wpAny_pure ⟨.none, m, H, ⟨rfl, h⟩, rfl, I, Same.rfl'⟩
theorem EvO_some {e : Expr} (h : EvE c e m H Q) : EvO c (some e) m H Q :=
  EvM.mk fun A env Fs R s E r eo I => wpAny_mono (EvE.run h r eo I) (fun a s1 ⟨p1, H1, q1, d1, I1, e1, k1⟩ => ⟨p1, m, H1, ⟨rfl, q1⟩, d1, I1, e1⟩) fun _ _ x => x
theorem EvO.run {e : Option Expr} {Q : PV → HF → Prop} {A : Around} {env : Env} {Fs : List Addr} {R : RF} {s : Shared} {E : Value → Shared → Prop} (h : EvO c e m H Q) (r : Room c.n Fs A) (eo : EnvOK c A env) (I : Inv c env Fs R m H s.heap) :
    wpAny (model c.g.prog c.g.w) A (valueOrNone (evalOpt e env)) (fun a s' => ∃ p H', Q p H' ∧ Den s'.heap p a ∧ Inv c env Fs R m H' s'.heap ∧ Same s s' ∧ TupKeep s.heap s'.heap) E s := by
  refine wpAny_mono (EvM.run h r eo I) (fun a s' x => ?_) fun _ _ x => x
  obtain ⟨p, m', H', ⟨rfl, h1⟩, h2, h3, h4⟩ := x
  exact ⟨p, H', h1, h2, h3, h4⟩
theorem EvE_Slice {v : Expr} {l u st : Option Expr} {p2 pos : Pos} (h : EvE c v m H fun o H1 => EvO c l m H1 fun lv H2 => EvO c u m H2 fun uv H3 => EvO c st m H3 fun sv H4 => SliO c.g c.n v (.Slice l u st p2) o lv uv sv H4 Q) :
    EvE c (.Subscript v (.Slice l u st p2) pos) m H Q := by
  refine EvE.mk fun A env Fs R s E r eo I => ?_
  rw [arm_eval_Subscript, arm_eval_Slice]
  refine wpAny_bind (wpAny_mono (EvE.run h r eo I) (fun a s1 ⟨p1, H1, q1, d1, I1, e1, k1⟩ => ?_) fun _ _ x => x)
  refine wpAny_bind (wpAny_holding (wpAny_bind ?_))
  refine wpAny_mono (EvO.run q1 r eo I1) (fun b s2 ⟨p2', H2, q2, d2, I2, e2, k2⟩ => ?_) fun _ _ x => x
  refine wpAny_bind (wpAny_holding ?_)
  refine wpAny_mono (EvO.run q2 r eo I2) (fun b2 s3 ⟨p3, H3, q3, d3, I3, e3, k3⟩ => ?_) fun _ _ x => x
  refine wpAny_bind (wpAny_holding ?_)
  refine wpAny_mono (EvO.run q3 r eo I3) (fun b3 s4 ⟨p4, H4, q4, d4, I4, e4, k4⟩ => ?_) fun _ _ x => x
  unfold newFields
  refine wpAny_newObj_type ?_
  refine wpAny_bind (wpAny_standAt ?_)
  have kx := (Ext.push s4.heap { cls := .type "slice", data := .fields [b, b2, b3].toArray }).tup
  have key := Op.runI (s := { s4 with heap := s4.heap.push { cls := .type "slice", data := .fields [b, b2, b3].toArray } }) (q4 a b b2 b3 s4.heap.objs.size) (E := E) r I4.push
    ⟨(((d1.keeps k2).keeps k3).keeps k4).keeps kx, ((d2.keeps k3).keeps k4).keeps kx, (d3.keeps k4).keeps kx, d4.keeps kx, Heap.get?_push_size _ rfl⟩
  refine wpAny_mono key (fun v s6 ⟨p3, H3, q3, d3, I3, e5, k3⟩ => ?_) fun _ _ x => x
  exact ⟨p3, H3, q3, d3, I3, (((e1.trans e2).trans e3).trans e4).trans (Same.heap.trans e5)⟩
end
end Mine
end
section
open PySem PySem.Calls PyProof.Rows
namespace Mine
section
variable {c : Cx} {m : Vars} {H : HF}
def plainTest : Expr → Bool
  | .UnaryOp .Not _ _ => false
  | .BoolOp .. => false
  | .IfExp .. => false
  | .Compare .. => false
  | _ => true
theorem isTrue_plainTest {e : Expr} (h : plainTest e = true) (env : Env) (whole : Sem Value) : isTrue e env whole = (do let v ← whole; standAt e.pos; holding [v] (truthy v)) := by
  cases e with
  | UnaryOp op x p => cases op <;> first | rfl | exact Bool.noConfusion (h : false = true)
  | BoolOp a b d => exact Bool.noConfusion (h : false = true)
  | IfExp a b d f => exact Bool.noConfusion (h : false = true)
  | Compare a b d f => exact Bool.noConfusion (h : false = true)
  | _ => rfl
theorem EvT_value {e : Expr} {Q : Bool → HF → Prop} (hp : plainTest e = true) (h : EvE c e m H fun v H1 => TruO c.g c.n v H1 Q) : EvT c e m H Q := by
  refine EvT.mk fun A env Fs R s E r eo I => wpAny_isTrue_value ?_ (isTrue_plainTest hp env _)
  refine wpAny_mono (EvE.run h r eo I) (fun a s1 ⟨p1, H1, q1, d1, I1, e1, k1⟩ => ?_) fun _ _ x => x
  refine wpAny_mono (Op.runI (q1 a) r I1 d1) (fun t s2 ⟨b, H2, q2, eq2, I2, e2, k2⟩ => ?_) fun _ _ x => x
  cases eq2
  exact ⟨H2, q2, I2, e1.trans e2⟩
theorem EvT_Not {x : Expr} {pos : Pos} {Q : Bool → HF → Prop} (h : EvT c x m H fun b H1 => Q (!b) H1) : EvT c (.UnaryOp .Not x pos) m H Q := by
  refine EvT.mk fun A env Fs R s E r eo I => wpAny_isTrue_Not ?_
  exact wpAny_mono (EvT.run h r eo I) (fun a s1 ⟨H1, q1, I1, e1, k1⟩ => ⟨H1, q1, I1, e1⟩) fun _ _ x => x
theorem EvT_BoolOp {op : BoolOp} {vs : List Expr} {pos : Pos} {Q : Bool → HF → Prop} (h : EvTs c op vs m H Q) : EvT c (.BoolOp op vs pos) m H Q := by
  refine EvT.mk fun A env Fs R s E r eo I => wpAny_isTrue_BoolOp ?_
  exact wpAny_mono (EvTs.run h r eo I) (fun a s1 ⟨H1, q1, I1, e1, k1⟩ => ⟨H1, q1, I1, e1⟩) fun _ _ x => x
theorem EvT_Compare {l : Expr} {op : CmpOp} {r : Expr} {pos : Pos} {Q : Bool → HF → Prop} (hm : behindInMarks op r = false)
    (h : EvE c l m H fun a H1 => EvE c r m H1 fun b H2 => CmpO c.g c.n op a b H2 fun v H3 => TruO c.g c.n v H3 Q) : EvT c (.Compare l [op] [r] pos) m H Q := by
  refine EvT.mk fun A env Fs R s E r eo I => wpAny_isTrue_Compare1 ?_ hm
  refine wpAny_mono (EvE.run h r eo I) (fun a s1 ⟨p1, H1, q1, d1, I1, e1, k1⟩ => ?_) fun _ _ x => x
  refine wpAny_mono (EvE.run q1 r eo I1) (fun b s2 ⟨p2, H2, q2, d2, I2, e2, k2⟩ => ?_) fun _ _ x => x
  refine wpAny_mono (Op.runI (q2 a b) r I2 ⟨d1.keeps k2, d2⟩) (fun v s3 ⟨p3, H3, q3, d3, I3, e3, k3⟩ => ?_) fun _ _ x => x
  refine wpAny_mono (Op.runI (q3 v) r I3 d3) (fun t s4 ⟨b, H4, q4, eq4, I4, e4, k4⟩ => ?_) fun _ _ x => x
  cases eq4
  exact ⟨H4, q4, I4, ((e1.trans e2).trans e3).trans e4⟩
theorem EvT_Compare2 {l : Expr} {op1 op2 : CmpOp} {r1 r2 : Expr} {pos : Pos} {Q : Bool → HF → Prop} (hm : behindInMarks op2 r2 = false)
    (h : EvE c l m H fun a H1 => EvE c r1 m H1 fun b H2 => CmpO c.g c.n op1 a b H2 fun v H3 => TruO c.g c.n v H3 fun t H4 =>
      (t = true → EvE c r2 m H4 fun d H5 => CmpO c.g c.n op2 b d H5 fun v2 H6 => TruO c.g c.n v2 H6 Q) ∧ (t = false → Q false H4)) : EvT c (.Compare l [op1, op2] [r1, r2] pos) m H Q := by
  refine EvT.mk fun A env Fs R s E r eo I => ?_
  rw [arm_isTrue_Compare]
  refine wpAny_bind (wpAny_mono (EvE.run h r eo I) (fun a s1 ⟨p1, H1, q1, d1, I1, e1, k1⟩ => ?_) fun _ _ x => x)
  show wpAny _ A (testChain pos a (op1 :: [op2]) (eval r1 env :: [markedBehindIn op2 r2 (eval r2 env)])) _ E s1
  rw [markedBehindIn_of_false hm]
  unfold testChain
  refine wpAny_bind (wpAny_holding (wpAny_mono (EvE.run q1 r eo I1) (fun b s2 ⟨p2, H2, q2, d2, I2, e2, k2⟩ => ?_) fun _ _ x => x))
  refine wpAny_bind (wpAny_standAt (wpAny_bind (wpAny_holding (wpAny_mono (Op.runI (q2 a b) r I2 ⟨d1.keeps k2, d2⟩) (fun v s3 ⟨p3, H3, q3, d3, I3, e3, k3⟩ => ?_) fun _ _ x => x))))
  refine wpAny_bind (wpAny_release (wpAny_bind (wpAny_holding (wpAny_mono (Op.runI (q3 v) r I3 d3) (fun t s4 ⟨t', H4, q4, eq4, I4, e4, k4⟩ => ?_) fun _ _ x => x))))
  cases eq4
  have e5 := ((e1.trans e2).trans e3).trans e4
  cases t with
  | false => exact wpAny_pure ⟨H4, q4.2 rfl, I4, e5⟩
  | true =>
    simp only [if_true]
    unfold testChain
    refine wpAny_bind (wpAny_holding (wpAny_mono (EvE.run (q4.1 rfl) r eo I4) (fun d s5 ⟨p5, H5, q5, d5, I5, e6, k5⟩ => ?_) fun _ _ x => x))
    refine wpAny_bind (wpAny_standAt ?_)
    unfold operate
    refine wpAny_bind (wpAny_bind (wpAny_holding (wpAny_mono (Op.runI (q5 b d) r I5 ⟨((d2.keeps k3).keeps k4).keeps k5, d5⟩) (fun v2 s6 ⟨p6, H6, q6, d6, I6, e7, k6⟩ => ?_) fun _ _ x => x)))
    refine wpAny_bind (wpAny_release (wpAny_pure ?_))
    refine wpAny_holding (wpAny_mono (Op.runI (q6 v2) r I6 d6) (fun t s7 ⟨t', H7, q7, eq7, I7, e8, k7⟩ => ?_) fun _ _ x => x)
    cases eq7
    exact ⟨H7, q7, I7, ((e5.trans e6).trans e7).trans e8⟩
theorem EvTs_nilA {Q : Bool → HF → Prop} (h : Q true H) : EvTs c .And [] m H Q := EvTs.mk fun A env Fs R s E r eo I => wpAny_allTrue_And_nil ⟨H, h, I, Same.rfl'⟩
theorem EvTs_consA {x : Expr} {rest : List Expr} {Q : Bool → HF → Prop} (h : EvT c x m H fun b H1 => (b = true → EvTs c .And rest m H1 Q) ∧ (b = false → Q false H1)) : EvTs c .And (x :: rest) m H Q := by
  refine EvTs.mk fun A env Fs R s E r eo I => wpAny_allTrue_And_cons ?_
  refine wpAny_mono (EvT.run h r eo I) (fun a s1 ⟨H1, q1, I1, e1, k1⟩ => ?_) fun _ _ x => x
  cases a with
  | true => exact wpAny_mono (EvTs.run (q1.1 rfl) r eo I1) (fun v s3 ⟨H3, q3, I3, e3, k3⟩ => ⟨H3, q3, I3, e1.trans e3⟩) fun _ _ x => x
  | false => exact ⟨H1, q1.2 rfl, I1, e1⟩
theorem EvTs_consO {x : Expr} {rest : List Expr} {Q : Bool → HF → Prop} (h : EvT c x m H fun b H1 => (b = true → Q true H1) ∧ (b = false → EvTs c .Or rest m H1 Q)) : EvTs c .Or (x :: rest) m H Q := by
  refine EvTs.mk fun A env Fs R s E r eo I => wpAny_allTrue_Or_cons ?_
  refine wpAny_mono (EvT.run h r eo I) (fun a s1 ⟨H1, q1, I1, e1, k1⟩ => ?_) fun _ _ x => x
  cases a with
  | false => exact wpAny_mono (EvTs.run (q1.2 rfl) r eo I1) (fun v s3 ⟨H3, q3, I3, e3, k3⟩ => ⟨H3, q3, I3, e1.trans e3⟩) fun _ _ x => x
  | true => exact ⟨H1, q1.1 rfl, I1, e1⟩
/-! storing -/
theorem Inv.setLocal {env : Env} {Fs : List Addr} {R : RF} {h h' : Heap} {x : Str} {p : PV} {v : Value} {mv : Str → Option Value} (I : Inv c env Fs R m H h)
    (hm : ∀ x p, m.lookup x = some p → kindIn c x = some .local → ∃ v, mv x = some v ∧ Den h p v) (hn : h.Ns env.locals mv) (hs : Heap.SameBut env.locals h h')
    (hn' : h'.Ns env.locals (fun y => if y = x then some v else mv y)) (d : Den h p v) (hk : kindIn c x = some .local) : Inv c env Fs R ((x, p) :: m) H h' ∧ TupKeep h h' := by
  have tk : TupKeep h h' := fun a o e q => (hs.2 a fun z => by subst z; exact I.notTup e q).trans e
  have ne : ∀ y, kindIn c y = some .cell ∨ kindIn c y = some .free → (y == x) = false := fun y hy => by
    cases z : y == x with
    | false => rfl
    | true => rw [eq_of_beq z, hk] at hy; rcases hy with hy | hy <;> cases hy
  refine ⟨{
    hi := ⟨fun b o e => (hs.2 b fun z => by rw [z, I.locB] at e; cases e).trans (I.hi.base b o e), fun b o e => ?_, fun a y e => ?_, fun L hL => ?_⟩
    locR := I.locR
    locB := I.locB
    locH := I.locH
    locs := ⟨_, hn', fun y q e hy => ?_⟩
    cels := fun y hy => ?_
    celH := fun y a e => ?_
    own := I.own }, tk⟩
  · obtain ⟨o', e', k⟩ := I.hi.rest b o e
    exact ⟨o', (hs.2 b fun z => by rw [z, I.locR] at e; cases e).trans e', k⟩
  · obtain ⟨q1, q2, o, q3, q4⟩ := I.hi.mine a y e
    exact ⟨q1, q2, o, (hs.2 a fun z => by rw [z, I.locH] at e; cases e).trans q3, q4.keeps tk⟩
  · obtain ⟨q1, q2, o, es, ep, q3, q4⟩ := I.hi.frs L hL
    by_cases z : L = env.locals
    · subst z
      obtain ⟨o', es', ep', e', d', _⟩ := hn'
      exact ⟨q1, q2, o', es', ep', e', d'⟩
    · exact ⟨q1, q2, o, es, ep, (hs.2 L z).trans q3, q4⟩
  · rw [List.lookup_cons] at e
    cases z : y == x with
    | true =>
      rw [z] at e; cases e
      exact ⟨v, if_pos (eq_of_beq z), d.keeps tk⟩
    | false =>
      rw [z] at e
      obtain ⟨w, q1, q2⟩ := hm y q e hy
      exact ⟨w, by rw [if_neg (by simpa using z)]; exact q1, q2.keeps tk⟩
  · obtain ⟨a, w, q1, q2, q3⟩ := I.cels y hy
    refine ⟨a, w, q1, q2.sameBut hs ?_, fun q e => ?_⟩
    · intro z
      obtain ⟨o, e1, e2⟩ := q2
      obtain ⟨o', es', ep', e', d', _⟩ := hn
      rw [z, e'] at e1; cases e1; rw [d'] at e2; cases e2
    · rw [List.lookup_cons, ne y hy] at e
      obtain ⟨u, e1, e2⟩ := q3 q e
      exact ⟨u, e1, e2.keeps tk⟩
  · obtain ⟨q1, w, q2⟩ := I.celH y a e
    refine ⟨q1, w, q2.sameBut hs ?_⟩
    intro z
    obtain ⟨o, e1, e2⟩ := q2
    obtain ⟨o', es', ep', e', d', _⟩ := hn
    rw [z, e'] at e1; cases e1; rw [d'] at e2; cases e2
theorem Inv.setCell {env : Env} {Fs : List Addr} {R : RF} {h h' : Heap} {x : Str} {p : PV} {v : Value} {a : Addr} {v₀ : Option Value} (I : Inv c env Fs R m H h)
    (hk : kindIn c x = some .cell) (ha : env.cells.lookup x = some a) (hR : R a = none) (hB : c.g.h₀.get? a = none) (hA : ∀ y d, y ≠ x → env.cells.lookup y = some d → d ≠ a)
    (hc : h.IsCell a v₀) (hs : Heap.SameBut a h h') (hc' : h'.IsCell a (some v)) (d : Den h p v) : Inv c env Fs R ((x, p) :: m) H h' ∧ TupKeep h h' := by
  have tk : TupKeep h h' := fun b o e q => (hs.2 b fun z => by subst z; exact cell_notTup hc e q).trans e
  obtain ⟨mv, hn, hm⟩ := I.locs
  have hal : env.locals ≠ a := by
    intro z
    obtain ⟨o, e1, e2⟩ := hc
    obtain ⟨o', es', ep', e', d', _⟩ := hn
    rw [← z, e'] at e1; cases e1; rw [d'] at e2; cases e2
  refine ⟨{
    hi := ⟨fun b o e => (hs.2 b fun z => by rw [z, hB] at e; cases e).trans (I.hi.base b o e), fun b o e => ?_, fun b y e => ?_, fun L hL => ?_⟩
    locR := I.locR
    locB := I.locB
    locH := I.locH
    locs := ⟨_, hn.sameBut hs hal, fun y q e hy => ?_⟩
    cels := fun y hy => ?_
    celH := fun y b e => ?_
    own := I.own }, tk⟩
  · obtain ⟨o', e', k⟩ := I.hi.rest b o e
    exact ⟨o', (hs.2 b fun z => by rw [z, hR] at e; cases e).trans e', k⟩
  · obtain ⟨q1, q2, o, q3, q4⟩ := I.hi.mine b y e
    exact ⟨q1, q2, o, (hs.2 b fun z => by rw [z, (I.celH x a ha).1] at e; cases e).trans q3, q4.keeps tk⟩
  · obtain ⟨q1, q2, o, es, ep, q3, q4⟩ := I.hi.frs L hL
    refine ⟨q1, q2, o, es, ep, (hs.2 L fun z => ?_).trans q3, q4⟩
    obtain ⟨o', e1, e2⟩ := hc
    rw [← z, q3] at e1; cases e1; rw [q4] at e2; cases e2
  · rw [List.lookup_cons] at e
    cases z : y == x with
    | true => rw [eq_of_beq z, hk] at hy; cases hy
    | false =>
      rw [z] at e
      obtain ⟨w, q1, q2⟩ := hm y q e hy
      exact ⟨w, q1, q2.keeps tk⟩
  · obtain ⟨b, w, q1, q2, q3⟩ := I.cels y hy
    cases z : y == x with
    | true =>
      have := eq_of_beq z; subst this
      rw [ha] at q1; cases q1
      refine ⟨a, some v, ha, hc', fun q e => ?_⟩
      rw [List.lookup_cons, z] at e; cases e
      exact ⟨v, rfl, d.keeps tk⟩
    | false =>
      refine ⟨b, w, q1, q2.sameBut hs (hA y b (by simpa using z) q1), fun q e => ?_⟩
      rw [List.lookup_cons, z] at e
      obtain ⟨u, e1, e2⟩ := q3 q e
      exact ⟨u, e1, e2.keeps tk⟩
  · obtain ⟨q1, w, q2⟩ := I.celH y b e
    by_cases z : b = a
    · subst z; exact ⟨q1, _, hc'⟩
    · exact ⟨q1, w, q2.sameBut hs z⟩
def stoOK (c : Cx) (x : Str) : Bool := match kindIn c x with
  | some .local => true
  | some .cell => c.ow x
  | _ => false
theorem sto {A : Around} {env : Env} {Fs : List Addr} {R : RF} {s : Shared} {E : Value → Shared → Prop} {x : Str} {p : PV} {w : Value} (hk : stoOK c x = true) (eo : EnvOK c A env) (I : Inv c env Fs R m H s.heap) (d : Den s.heap p w) :
    wpAny (model c.g.prog c.g.w) A (storeName env x w) (fun _ s' => Inv c env Fs R ((x, p) :: m) H s'.heap ∧ Same s s' ∧ TupKeep s.heap s'.heap) E s := by
  have hkf : env.scope.kind = .function := by rw [eo.scope]; exact eo.kind
  have hkx : env.kindOf x = kindIn c x := by unfold Env.kindOf kindIn; rw [eo.scope]
  unfold stoOK at hk
  split at hk
  · rename_i e
    rw [e] at hkx
    obtain ⟨mv, hn, hm⟩ := I.locs
    refine wpAny_storeName_local hkx hn (fun h' h1 h2 => ?_) (by rw [hkf]; rfl)
    obtain ⟨J, tk⟩ := I.setLocal hm hn h2 h1 d e
    exact ⟨J, Same.mk, tk⟩
  · rename_i e
    rw [e] at hkx
    obtain ⟨a, q1, q2, q3, q4⟩ := I.own x e hk
    obtain ⟨b, v, p1, p2, p3⟩ := I.cels x (.inl e)
    rw [q1] at p1; cases p1
    refine wpAny_storeName_cell hkf hkx q1 p2 fun h' h1 h2 => ?_
    obtain ⟨J, tk⟩ := I.setCell e q1 q2 q3 q4 p2 h2 h1 d
    exact ⟨J, Same.heap, tk⟩
  · cases hk
theorem EvA_Name {x : Str} {pos : Pos} {v : PV} {Q : Vars → HF → Prop} (hk : stoOK c x = true) (h : Q ((x, v) :: m) H) : EvA c (.Name x pos) v m H Q := fun A env Fs R s E w r eo I d => by
  refine wpAny_assign_Name ?_
  exact wpAny_mono (sto hk eo I d) (fun _ s1 ⟨J, e1, k1⟩ => ⟨_, H, h, J, e1, k1⟩) fun _ _ x => x
theorem EvA_Subscript {o i : Expr} {pos : Pos} {v : PV} {Q : Vars → HF → Prop} (h : EvE c o m H fun ov H1 => EvE c i m H1 fun iv H2 => SetO c.g c.n ov iv v H2 fun H3 => Q m H3) : EvA c (.Subscript o i pos) v m H Q := fun A env Fs R s E w r eo I d => by
  rw [arm_assign_Subscript]
  refine wpAny_bind (wpAny_holding (wpAny_mono (EvE.run h r eo I) (fun a s1 ⟨p1, H1, q1, d1, I1, e1, k1⟩ => ?_) fun _ _ x => x))
  refine wpAny_bind (wpAny_holding (wpAny_mono (EvE.run q1 r eo I1) (fun b s2 ⟨p2, H2, q2, d2, I2, e2, k2⟩ => ?_) fun _ _ x => x))
  refine wpAny_bind (wpAny_standAt (wpAny_bind (wpAny_holding ?_)))
  refine wpAny_mono (Op.runI (q2 a b w) r I2 ⟨d1.keeps k2, d2, (d.keeps k1).keeps k2⟩) (fun t s3 ⟨b, H3, q3, eq3, I3, e3, k3⟩ => ?_) fun _ _ x => x
  exact wpAny_release ⟨m, H3, q3, I3, (e1.trans e2).trans e3, (k1.trans k2).trans k3⟩
def EvAs (c : Cx) (es : List Expr) (vs : List PV) (m : Vars) (H : HF) (Q : Vars → HF → Prop) : Prop :=
  ∀ (A : Around) (env : Env) (Fs : List Addr) (R : RF) (s : Shared) (E : Value → Shared → Prop) (ws : List Value), Room c.n Fs A → EnvOK c A env → Inv c env Fs R m H s.heap → DenL s.heap vs ws →
    wpAny (model c.g.prog c.g.w) A (assignInOrder ((assignEach es env).map (·.2)) ws) (fun _ s' => ∃ m' H', Q m' H' ∧ Inv c env Fs R m' H' s'.heap ∧ Same s s' ∧ TupKeep s.heap s'.heap) E s
theorem assignEach_cons {e : Expr} (h : isStar e = false) (rest : List Expr) (env : Env) : assignEach (e :: rest) env = (false, assign e env) :: assignEach rest env := by
  cases e <;> first | rfl | cases h
theorem EvAs_nil {Q : Vars → HF → Prop} (h : Q m H) : EvAs c [] [] m H Q := fun A env Fs R s E ws r eo I d => by
  rw [show ws = [] from d]
  exact wpAny_pure ⟨m, H, h, I, Same.rfl', TupKeep.refl _⟩
theorem EvAs_cons {t : Expr} {ts : List Expr} {x : PV} {xs : List PV} {Q : Vars → HF → Prop} (hs : isStar t = false) (h : EvA c t x m H fun m1 H1 => EvAs c ts xs m1 H1 Q) : EvAs c (t :: ts) (x :: xs) m H Q := fun A env Fs R s E ws r eo I d => by
  obtain ⟨w, ws', rfl, d1, d2⟩ := d
  rw [assignEach_cons hs]
  show wpAny _ A (do holding ws' (assign t env w); assignInOrder ((assignEach ts env).map (·.2)) ws') _ E s
  refine wpAny_bind (wpAny_holding (wpAny_mono (h A env Fs R s E w r eo I d1) (fun _ s1 ⟨m1, H1, q1, I1, e1, k1⟩ => ?_) fun _ _ x => x))
  refine wpAny_mono (q1 A env Fs R s1 E ws' r eo I1 (d2.keeps k1)) (fun _ s2 ⟨m2, H2, q2, I2, e2, k2⟩ => ?_) fun _ _ x => x
  exact ⟨m2, H2, q2, I2, e1.trans e2, k1.trans k2⟩
theorem extBut_ext {h h' : Heap} (k : Heap.ExtBut h.objs.size h h') : Ext h h' := fun b o e => k b o (Nat.ne_of_lt (Heap.lt_size e)) e
theorem assignEach_plain : ∀ {es : List Expr} (env : Env), es.all (fun e => !isStar e) = true → (assignEach es env).length = es.length ∧ (assignEach es env).findIdx? (·.1) = none
  | [], _, _ => ⟨rfl, rfl⟩
  | e :: es, env, h => by
    rw [List.all_cons, Bool.and_eq_true] at h
    obtain ⟨h1, h2⟩ := assignEach_plain env h.2
    rw [assignEach_cons (by simpa using h.1)]
    refine ⟨by simp [h1], ?_⟩
    rw [List.findIdx?_cons]; simp [h2]
theorem EvA_Tuple {es : List Expr} {k : Nat} {pos : Pos} {xs : List PV} {Q : Vars → HF → Prop} (hs : es.all (fun e => !isStar e) = true) (hl : xs.length = es.length) (h : EvAs c es xs m H Q) : EvA c (.Tuple es k pos) (.tup xs) m H Q :=
  fun A env Fs R s E w r eo I d => by
  obtain ⟨a, vs, rfl, e2, e5⟩ := d
  obtain ⟨q1, q2⟩ := assignEach_plain env hs
  refine wpAny_assign_Tuple r.1 ⟨_, e2, rfl, 0, rfl⟩ (by rw [q1, ← hl, ← e5.length]; simp) q2 fun h' kx => ?_
  have kx := extBut_ext kx
  refine wpAny_mono (h A env Fs R { s with heap := h' } E vs.toList r eo (I.ext kx) (e5.keeps kx.tup)) (fun _ s2 ⟨m2, H2, q2, I2, e2, k2⟩ => ?_) fun _ _ x => x
  exact ⟨m2, H2, q2, I2, Same.heap.trans e2, kx.tup.trans k2⟩
end
end Mine
end
section
open PySem PySem.Calls PyProof.Rows
namespace Mine
section
variable {c : Cx} {m : Vars} {H : HF} {Q : Fl → Vars → HF → Prop}
theorem ldVar {A : Around} {env : Env} {Fs : List Addr} {R : RF} {s : Shared} {E : Value → Shared → Prop} {x : Str} {v : PV} {K : Value → Shared → Prop} (eo : EnvOK c A env) (I : Inv c env Fs R m H s.heap) (hk : varKind (kindIn c x) = true) (hv : m.lookup x = some v)
    (hd : (x == ("__classdict__" : Str)) = false) (h : ∀ w, Den s.heap v w → K w s) : wpAny (model c.g.prog c.g.w) A (loadName env x) K E s := by
  have hkf : env.scope.kind = .function := by rw [eo.scope]; exact eo.kind
  have hkx : env.kindOf x = kindIn c x := by unfold Env.kindOf kindIn; rw [eo.scope]
  cases e : kindIn c x with
  | none => rw [e] at hk; cases hk
  | some k =>
    rw [e] at hkx
    cases k with
    | «local» =>
      obtain ⟨mv, hn, hm⟩ := I.locs
      obtain ⟨w, hw, d⟩ := hm x v hv e
      exact wpAny_loadName_local hkf hkx hn hw (h w d)
    | cell =>
      obtain ⟨a, v', h1, h2, h3⟩ := I.cels x (.inl e)
      obtain ⟨w, rfl, d⟩ := h3 v hv
      exact wpAny_loadName_cell hkf hkx h1 h2 (h w d)
    | free =>
      obtain ⟨a, v', h1, h2, h3⟩ := I.cels x (.inr e)
      obtain ⟨w, rfl, d⟩ := h3 v hv
      exact wpAny_loadName_free hkf hkx h1 h2 (h w d) hd
    | _ => rw [e] at hk; cases hk
theorem EvSs_nil (h : Q .next m H) : EvSs c [] m H Q := EvM.mk fun A env Fs R s E r eo I => wpAny_execs_nil ⟨.next, m, H, h, rfl, I, Same.rfl'⟩
/-- what follows a statement -/
def Then (c : Cx) (rest : List Stmt) (Q : Fl → Vars → HF → Prop) : Fl → Vars → HF → Prop
  | .next, m, H => EvSs c rest m H Q
  | f, m, H => Q f m H
theorem EvSs_cons {st : Stmt} {rest : List Stmt} (h : EvS c st m H (Then c rest Q)) : EvSs c (st :: rest) m H Q := by
  refine EvM.mk fun A env Fs R s E r eo I => wpAny_execs_cons ?_
  refine wpAny_mono (EvM.run h r eo I) (fun a s1 ⟨f, m1, H1, q1, d1, I1, e1, k1⟩ => ?_) fun _ _ x => x
  cases f with
  | next =>
    cases d1
    exact wpAny_mono (EvM.run q1 r eo I1) (fun v s3 ⟨p3, m3, H3, q3, d3, I3, e3, k3⟩ => ⟨p3, m3, H3, q3, d3, I3, e1.trans e3⟩) fun _ _ x => x
  | brk => cases d1; exact ⟨.brk, m1, H1, q1, rfl, I1, e1⟩
  | cont => cases d1; exact ⟨.cont, m1, H1, q1, rfl, I1, e1⟩
  | ret v => obtain ⟨w, rfl, d⟩ := d1; exact ⟨.ret v, m1, H1, q1, ⟨w, rfl, d⟩, I1, e1⟩
theorem EvS_Break {pos : Pos} (h : Q .brk m H) : EvS c (.Break pos) m H Q := EvM.mk fun A env Fs R s E r eo I => wpAny_Break ⟨.brk, m, H, h, rfl, I, Same.rfl'⟩
theorem EvS_Continue {pos : Pos} (h : Q .cont m H) : EvS c (.Continue pos) m H Q := EvM.mk fun A env Fs R s E r eo I => wpAny_Continue ⟨.cont, m, H, h, rfl, I, Same.rfl'⟩
theorem EvS_Return {e : Expr} {pos : Pos} (h : EvE c e m H fun v H1 => Q (.ret v) m H1) : EvS c (.Return (some e) pos) m H Q := EvM.mk fun A env Fs R s E r eo I => wpAny_Return_some (by
  exact wpAny_mono (EvE.run h r eo I) (fun a s1 ⟨p1, H1, q1, d1, I1, e1, k1⟩ => ⟨.ret p1, m, H1, q1, ⟨a, rfl, d1⟩, I1, e1⟩) fun _ _ x => x)
theorem EvS_If {t : Expr} {b o : List Stmt} {pos : Pos} (h : EvT c t m H fun t H1 => (t = true → EvSs c b m H1 Q) ∧ (t = false → EvSs c o m H1 Q)) : EvS c (.If t b o pos) m H Q := by
  refine EvM.mk fun A env Fs R s E r eo I => wpAny_If ?_
  refine wpAny_mono (EvT.run h r eo I) (fun a s1 ⟨H1, q1, I1, e1, k1⟩ => ?_) fun _ _ x => x
  cases a with
  | true => exact wpAny_mono (EvM.run (q1.1 rfl) r eo I1) (fun v s3 ⟨p3, m3, H3, q3, d3, I3, e3, k3⟩ => ⟨p3, m3, H3, q3, d3, I3, e1.trans e3⟩) fun _ _ x => x
  | false => exact wpAny_mono (EvM.run (q1.2 rfl) r eo I1) (fun v s3 ⟨p3, m3, H3, q3, d3, I3, e3, k3⟩ => ⟨p3, m3, H3, q3, d3, I3, e1.trans e3⟩) fun _ _ x => x
def notComp : Expr → Bool
  | .ListComp .. => false
  | .SetComp .. => false
  | .DictComp .. => false
  | _ => true
theorem swaps_not {e : Expr} (h : notComp e = true) (t : Option Expr) (line : Nat) (env : Env) : swapsWith e t line env = pure false := by
  cases e <;> first | rfl | cases h
theorem EvS_Expr {e : Expr} {pos : Pos} (hc : notComp e = true) (h : EvE c e m H fun _ H1 => Q .next m H1) : EvS c (.Expr e pos) m H Q := by
  refine EvM.mk fun A env Fs R s E r eo I => ?_
  have hi : interactive env = false := by
    unfold interactive; rw [eo.scope, eo.kind]; rfl
  rw [exec_Expr env e pos hi (swaps_not hc _ _ _)]
  refine wpAny_bind (wpAny_standAt (wpAny_bind (wpAny_mono (EvE.run h r eo I) (fun a s1 ⟨p1, H1, q1, d1, I1, e1, k1⟩ => ?_) fun _ _ x => x)))
  exact wpAny_dropValue ⟨.next, m, H1, q1, rfl, I1, e1⟩
def notTup : Expr → Bool
  | .Tuple .. => false
  | _ => true
theorem EvS_Assign {t value : Expr} {pos : Pos} (hsw : ∀ env, env.scope = c.sc → swapsWithSole [t] value pos.line env = pure false) (hst : isStar t = false) (hnt : ∀ env, env.scope = c.sc → swappedStores [t] value env = pure none)
    (h : EvE c value m H fun v H1 => EvA c t v m H1 fun m2 H2 => Q .next m2 H2) : EvS c (.Assign [t] value pos) m H Q := by
  refine EvM.mk fun A env Fs R s E r eo I => ?_
  rw [arm_exec_Assign, hsw env eo.scope]
  refine wpAny_bind (wpAny_standAt (wpAny_bind (wpAny_pure ?_)))
  simp only [Bool.false_eq_true, if_false]
  refine wpAny_bind (wpAny_mono (EvE.run h r eo I) (fun a s1 ⟨p1, H1, q1, d1, I1, e1, k1⟩ => ?_) fun _ _ x => x)
  rw [hnt env eo.scope, assignEach_cons hst]
  refine wpAny_bind (wpAny_pure ?_)
  show wpAny _ A (do assign t env a; pure Flow.next) _ E s1
  refine wpAny_bind (wpAny_mono (q1 A env Fs R s1 E a r eo I1 d1) (fun _ s2 ⟨m2, H2, q2, I2, e2, k2⟩ => ?_) fun _ _ x => x)
  exact wpAny_pure ⟨.next, m2, H2, q2, rfl, I2, e1.trans e2⟩
theorem EvS_Aug {x : Str} {pos' : Pos} {op : Operator} {value : Expr} {pos : Pos} {old : PV} (hk : varKind (kindIn c x) = true) (hs : stoOK c x = true) (hv : m.lookup x = some old) (hd : (x == ("__classdict__" : Str)) = false)
    (h : EvE c value m H fun v H1 => IBinO c.g c.n op old v H1 fun r H2 => Q .next ((x, r) :: m) H2) : EvS c (.AugAssign (.Name x pos') op value pos) m H Q := by
  refine EvM.mk fun A env Fs R s E r eo I => wpAny_AugAssign_Name ?_
  refine ldVar eo I hk hv hd fun w d => ?_
  refine wpAny_mono (EvE.run h r eo I) (fun a s1 ⟨p1, H1, q1, d1, I1, e1, k1⟩ => ?_) fun _ _ x => x
  refine wpAny_mono (Op.runI (q1 w a) r I1 ⟨d.keeps k1, d1⟩) (fun v s3 ⟨p3, H3, q3, d3, I3, e3, k3⟩ => ?_) fun _ _ x => x
  refine wpAny_mono (sto hs eo I3 d3) (fun _ s4 ⟨J, e4, k4⟩ => ?_) fun _ _ x => x
  exact ⟨.next, _, H3, q3, rfl, J, (e1.trans e3).trans e4⟩
/-- at a turn's end -/
def TurnEnd {σ : Type} (Mv : σ → Vars) (Hh : σ → HF) (S : σ → Prop) (Q : Fl → Vars → HF → Prop) : Fl → Vars → HF → Prop
  | .next, m, H => ∃ st, S st ∧ Vars.Le (Mv st) m ∧ (Hh st).Le H
  | .cont, m, H => ∃ st, S st ∧ Vars.Le (Mv st) m ∧ (Hh st).Le H
  | .brk, m, H => Q .next m H
  | .ret v, m, H => Q (.ret v) m H
theorem EvS_While {σ : Type} (Mv : σ → Vars) (Hh : σ → HF) (S : σ → Prop) (μ : σ → Nat) {t : Expr} {b o : List Stmt} {pos : Pos}
    (h0 : ∃ st, S st ∧ Vars.Le (Mv st) m ∧ (Hh st).Le H)
    (h : ∀ st, S st → EvT c t (Mv st) (Hh st) fun t H1 => (t = true → EvSs c b (Mv st) H1 (TurnEnd Mv Hh (fun st' => S st' ∧ μ st' < μ st) Q)) ∧ (t = false → EvSs c o (Mv st) H1 Q)) : EvS c (.While t b o pos) m H Q := by
  refine EvM.mk fun A env Fs R s E r eo I => wpAny_While ?_
  obtain ⟨st, hS, hm, hH⟩ := h0
  refine codeAny_whileLoop (fun n s' => ∃ st, S st ∧ μ st = n ∧ Inv c env Fs R (Mv st) (Hh st) s'.heap ∧ Same s s') (fun n s1 hI => ?_) (μ st) ⟨st, hS, rfl, I.less hm hH, Same.rfl'⟩
  obtain ⟨st, hS, rfl, I1, e1⟩ := hI
  refine wpAny_mono (EvT.run (h st hS) r eo I1) (fun a s2 ⟨H2, q2, I2, e2, k2⟩ => ?_) fun _ _ x => x
  cases a with
  | false =>
    simp only [Bool.false_eq_true, if_false]
    exact wpAny_mono (EvM.run (q2.2 rfl) r eo I2) (fun v s3 ⟨p3, m3, H3, q3, d3, I3, e3, k3⟩ => ⟨p3, m3, H3, q3, d3, I3, (e1.trans e2).trans e3⟩) fun _ _ x => x
  | true =>
    simp only [if_true]
    refine wpAny_mono (EvM.run (q2.1 rfl) r eo I2) (fun v s3 ⟨p3, m3, H3, q3, d3, I3, e3, k3⟩ => ?_) fun _ _ x => x
    have e5 := (e1.trans e2).trans e3
    cases p3 with
    | next => cases d3; obtain ⟨st', ⟨z1, z2⟩, z3, z4⟩ := q3; exact ⟨_, z2, st', z1, rfl, I3.less z3 z4, e5⟩
    | cont => cases d3; obtain ⟨st', ⟨z1, z2⟩, z3, z4⟩ := q3; exact ⟨_, z2, st', z1, rfl, I3.less z3 z4, e5⟩
    | brk => cases d3; exact ⟨.next, m3, H3, q3, rfl, I3, e5⟩
    | ret p => obtain ⟨w, rfl, d⟩ := d3; exact ⟨.ret p, m3, H3, q3, ⟨w, rfl, d⟩, I3, e5⟩
end
/-! iterables -/
inductive Src where
  | list (a : Addr) (xs : List PV)
  | tup (xs : List PV)
  | range (a : Addr) (lo hi : Int)
  | bytes (b : List UInt8)
def rangeL (lo hi : Int) : List PV := (List.range (hi - lo).toNat).map fun (k : Nat) => PV.int (lo + (k : Int))
def Src.val : Src → PV
  | .list a _ => .ref a | .tup xs => .tup xs | .range a _ _ => .ref a | .bytes b => .bytes b
def Src.items : Src → List PV
  | .list _ xs => xs | .tup xs => xs | .range _ lo hi => rangeL lo hi | .bytes b => b.map fun c => .int c.toNat
def Src.ok : Src → HF → Prop
  | .list a xs, H => H a = some (.list xs)
  | .tup _, _ => True
  | .range a lo hi, H => H a = some (.range lo hi) ∧ -1000000 < lo ∧ lo < 1000000 ∧ -1000000 < hi ∧ hi < 1000000
  | .bytes _, _ => True
/-- once it goes -/
def Src.okL : Src → HF → Prop
  | .list a xs, H => H a = some (.list xs)
  | .tup _, _ => True
  | .range .., _ => True
  | .bytes _, _ => True
theorem Src.ok.okL : ∀ {src : Src} {H : HF}, src.ok H → src.okL H
  | .list .., _, h => h
  | .tup _, _, _ => trivial
  | .range .., _, _ => trivial
  | .bytes _, _, _ => trivial
/-- the iterator at its i-th item -/
def ItAt (h : Heap) : Src → Nat → Obj → Prop
  | .list a xs, i, o => o.cls = .type "list_iterator" ∧ o.data = .fields #[.ref a, .int i 0]
  | .tup xs, i, o => ∃ t, o.cls = .type "tuple_iterator" ∧ o.data = .fields #[.ref t, .int i 0] ∧ Den h (.tup xs) (.ref t)
  | .range _ lo hi, i, o => o = { cls := .type "range_iterator", data := .fields #[rawInt (lo + i), rawInt (((hi - lo).toNat : Int) - i), rawInt 1] }
  | .bytes b, i, o => ∃ t, o.cls = .type "bytes_iterator" ∧ o.data = .fields #[.bytes b.toArray t, .int i 0]
theorem ItAt.keeps {h h' : Heap} (k : TupKeep h h') : ∀ {src : Src} {i : Nat} {o : Obj}, ItAt h src i o → ItAt h' src i o
  | .list .., _, _, e => e
  | .tup _, _, _, ⟨t, a, b, d⟩ => ⟨t, a, b, d.keeps k⟩
  | .range .., _, _, e => e
  | .bytes _, _, _, e => e
theorem ItAt.fields {h : Heap} : ∀ {src : Src} {i : Nat} {o : Obj}, ItAt h src i o → ∃ vs n, o.data = .fields vs ∧ o.cls = .type n ∧ ["enumerate", "zip", "dict_itemiterator", "dict_reverseitemiterator", "odict_iterator", "itertools.zip_longest", "itertools.pairwise"].contains n = false
  | .list .., _, _, e => ⟨_, _, e.2, e.1, by decide⟩
  | .tup _, _, _, ⟨t, a, b, d⟩ => ⟨_, _, b, a, by decide⟩
  | .range .., _, _, e => by subst e; exact ⟨_, _, rfl, rfl, by decide⟩
  | .bytes _, _, _, ⟨t, a, b⟩ => ⟨_, _, b, a, by decide⟩
theorem rangeL_len (lo hi : Int) : (rangeL lo hi).length = (hi - lo).toNat := by simp [rangeL]
theorem rangeL_get {lo hi : Int} {i : Nat} : (rangeL lo hi)[i]? = if i < (hi - lo).toNat then some (PV.int (lo + (i : Int))) else none := by
  unfold rangeL
  rw [List.getElem?_map]
  split
  · rename_i h; rw [List.getElem?_range h]; rfl
  · rename_i h; rw [List.getElem?_eq_none (by simpa using h)]; rfl
section
variable {c : Cx} {m : Vars} {H : HF} {A : Around} {env : Env} {Fs : List Addr} {R : RF} {s : Shared} {E : Value → Shared → Prop} {src : Src}
theorem mineList {a : Addr} {xs : List PV} {g : G} {h : Heap} (I : HI g Fs R H h) (e : H a = some (.list xs)) : ∃ vs, h.IsList a vs ∧ DenL h xs vs.toList := by
  obtain ⟨_, _, o, h1, vs, n, rfl, h5⟩ := I.mine a _ e
  exact ⟨vs, ⟨_, h1, rfl, n, rfl⟩, h5⟩
theorem rangeSize_of {lo hi : Int} : Builtin.Range.rangeSize lo hi 1 = ((hi - lo).toNat : Int) := by
  unfold Builtin.Range.rangeSize
  rw [if_pos (by decide)]
  split <;> omega
theorem Builtin_small {lo hi : Int} (h1 : -1000000 < lo) (h2 : lo < 1000000) (h3 : -1000000 < hi) (h4 : hi < 1000000) : Builtin.Range.small lo hi 1 = true := by
  unfold Builtin.Range.small
  rw [rangeSize_of]
  have fits : ∀ x : Int, -10000000 < x → x < 10000000 → Builtin.Range.rangeFitsLong x = true := fun x a b => by
    unfold Builtin.Range.rangeFitsLong
    simp only [Bool.and_eq_true, decide_eq_true_eq]
    omega
  rw [fits lo (by omega) (by omega), fits hi (by omega) (by omega), fits 1 (by omega) (by omega), fits _ (by omega) (by omega)]
  simp only [Bool.true_and, Bool.and_true, Bool.or_eq_true]
  right
  rw [if_pos (by decide)]
  exact fits _ (by omega) (by omega)
theorem iter_start {g : G} (I : HI g Fs R H s.heap) {w : Value} (hs : src.ok H) (d : Den s.heap src.val w) {K : Value → Shared → Prop}
    (h : ∀ o, ItAt (s.heap.push o) src 0 o → o.isFreed = false → K (.ref s.heap.objs.size) { s with heap := s.heap.push o }) : wpAny (model g.prog g.w) A (pyIter w) K E s := by
  cases src with
  | list a xs =>
    cases d
    obtain ⟨vs, h1, h2⟩ := mineList I hs
    exact wpAny_pyIter_list h1 (h _ ⟨rfl, rfl⟩ rfl)
  | tup xs =>
    obtain ⟨a, vs, rfl, e2, e5⟩ := d
    exact wpAny_pyIter_tuple ⟨_, e2, rfl, 0, rfl⟩ (h _ ⟨a, rfl, rfl, a, vs, rfl, Heap.get?_push_of_some _ e2, e5.keeps (Ext.push _ _).tup⟩ rfl)
  | range a lo hi =>
    cases d
    obtain ⟨h1, h2, h3, h4, h5⟩ := hs
    obtain ⟨_, _, o, q1, t, u, v, rfl⟩ := I.mine a _ h1
    refine wpAny_pyIter_range (a := lo) (b := hi) (c := 1) (t := t) (u := u) (v := v) q1 ?_ ?_
    · exact Builtin_small (by omega) (by omega) (by omega) (by omega)
    · refine h _ ?_ rfl
      show _ = _
      rw [rangeSize_of]; simp
  | bytes b =>
    obtain ⟨t, rfl⟩ := d
    exact PySem.W.KBw.pyIter_bytes (h _ ⟨t, rfl, rfl⟩ rfl)
theorem iter_next {g : G} (hh : A.handled = none) (I : HI g Fs R H s.heap) {it : Addr} {i : Nat} {o : Obj} (hs : src.okL H) (ho : s.heap.get? it = some o) (hi : ItAt s.heap src i o) {K : Option Value → Shared → Prop}
    (h1 : ∀ p v h' tk o', src.items[i]? = some p → Heap.SameBut it s.heap h' → h'.get? it = some o' → ItAt h' src (i + 1) o' → Den h' p v → K (some v) { s with heap := h', toks := tk })
    (h2 : ∀ h', src.items[i]? = none → Heap.ExtBut it s.heap h' → K none { s with heap := h' }) : wpAny (model g.prog g.w) A (pyNext (.ref it)) K E s := by
  have tkp : ∀ h', Heap.SameBut it s.heap h' → TupKeep s.heap h' := fun h' hs' a o2 e q => (hs'.2 a fun z => by
    subst z
    rw [ho] at e; cases e
    obtain ⟨vs, n, d, _⟩ := hi.fields
    obtain ⟨_, vs', n', d'⟩ := q
    rw [d] at d'; cases d').trans e
  cases src with
  | list a xs =>
    obtain ⟨vs, q1, q2⟩ := mineList I hs
    have hit : s.heap.IsListIter it a i := ⟨o, ho, hi.1, hi.2⟩
    cases e : vs[i]? with
    | none =>
      refine wpAny_pyNext_list_end hh hit q1 e fun h' k => h2 h' ?_ k
      have : vs.size ≤ i := by simpa using e
      show xs[i]? = none
      rw [List.getElem?_eq_none]; rw [← q2.length]; simpa using this
    | some v =>
      obtain ⟨p, e1, d⟩ := q2.get' (i := i) (v := v) (by simpa using e)
      refine wpAny_pyNext_list_item hit q1 e fun h' k1 k2 => ?_
      obtain ⟨o', z1, z2, z3⟩ := k1
      exact h1 p v h' s.toks o' e1 k2 z1 ⟨z2, z3⟩ (d.keeps (tkp _ k2))
  | tup xs =>
    obtain ⟨t, c1, c2, dt⟩ := hi
    obtain ⟨a, vs, r1, e2, q2⟩ := id dt
    cases r1
    have q1 : s.heap.IsTuple t vs := ⟨_, e2, rfl, 0, rfl⟩
    have hit : s.heap.IsTupleIter it t i := ⟨o, ho, c1, c2⟩
    cases e : vs[i]? with
    | none =>
      refine wpAny_pyNext_tuple_end hh hit q1 e fun h' k => h2 h' ?_ k
      have : vs.size ≤ i := by simpa using e
      show xs[i]? = none
      rw [List.getElem?_eq_none]; rw [← q2.length]; simpa using this
    | some v =>
      obtain ⟨p, e1, d⟩ := q2.get' (i := i) (v := v) (by simpa using e)
      refine wpAny_pyNext_tuple_item hit q1 e fun h' k1 k2 => ?_
      obtain ⟨o', z1, z2, z3⟩ := k1
      exact h1 p v h' s.toks o' e1 k2 z1 ⟨t, z2, z3, dt.keeps (tkp _ k2)⟩ (d.keeps (tkp _ k2))
  | range a lo hi' =>
    have hit : IsRangeIter s.heap it (lo + i) (((hi' - lo).toNat : Int) - i) 1 := by
      have := ho; rw [show o = _ from hi] at this; exact this
    by_cases hlt : i < (hi' - lo).toNat
    · refine wpAny_pyNext_range_item hit (by omega) fun h' k1 k2 => ?_
      refine h1 (.int (lo + i)) _ h' _ _ ?_ k2 k1 ?_ ⟨_, rfl⟩
      · show (rangeL lo hi')[i]? = _
        rw [rangeL_get, if_pos hlt]
      · show _ = _
        have : (lo + (i : Int) + 1 : Int) = lo + ((i + 1 : Nat) : Int) := by omega
        have : ((((hi' - lo).toNat : Int) - i - 1) : Int) = ((hi' - lo).toNat : Int) - ((i + 1 : Nat) : Int) := by omega
        simp only [rawInt, *]
    · refine wpAny_pyNext_range_end hh hit (by omega) fun h' k => h2 h' ?_ k
      show (rangeL lo hi')[i]? = _
      rw [rangeL_get, if_neg hlt]
  | bytes b =>
    obtain ⟨t, c1, c2⟩ := hi
    have hit : PySem.W.KBw.IsBytesIter s.heap it b.toArray t i := ⟨o, ho, c1, c2⟩
    cases e : b.toArray[i]? with
    | none =>
      refine PySem.W.KBw.next_end hh hit e fun h' k => h2 h' ?_ k
      have e' : b[i]? = none := by simpa using e
      show (b.map _)[i]? = none
      rw [List.getElem?_map, e']; rfl
    | some v =>
      refine PySem.W.KBw.next_item hit e fun h' k1 k2 => ?_
      obtain ⟨o', z1, z2, z3⟩ := k1
      have e' : b[i]? = some v := by simpa using e
      refine h1 (.int v.toNat) _ h' _ o' ?_ k2 z1 ⟨t, z2, z3⟩ ⟨_, rfl⟩
      show (b.map _)[i]? = _
      rw [List.getElem?_map, e']; rfl
end
end Mine
end
section
open PySem PySem.Calls PyProof.Rows
namespace Mine
def RF.put (R : RF) (a : Addr) (o : Obj) : RF := fun b => if b = a then some o else R b
theorem RF.put_self (R : RF) (a : Addr) (o : Obj) : R.put a o a = some o := if_pos rfl
theorem RF.put_other {R : RF} {a b : Addr} {o : Obj} (h : b ≠ a) : R.put a o b = R b := if_neg h
section
variable {c : Cx} {m : Vars} {H : HF} {env : Env} {Fs : List Addr} {R : RF} {h h' : Heap}
/-- a new hidden object -/
theorem Inv.hide {o : Obj} (I : Inv c env Fs R m H h) (hf : o.isFreed = false) : Inv c env Fs (R.put h.objs.size o) m H (h.push o) := by
  have J := I.push (o := o)
  refine { J with hi := { J.hi with rest := fun b z e => ?_, mine := fun a x e => ?_ }, locR := ?_, own := fun x hk ho => ?_ }
  · by_cases hb : b = h.objs.size
    · subst hb; rw [RF.put_self] at e; cases e; exact ⟨_, Heap.get?_push_size _ hf, .rfl'⟩
    · rw [RF.put_other hb] at e; exact J.hi.rest b z e
  · obtain ⟨p, q, r⟩ := J.hi.mine a x e
    exact ⟨p, by rw [RF.put_other (fun z => by rw [z, I.hi.sizeH] at e; cases e)]; exact q, r⟩
  · obtain ⟨mv, hn, _⟩ := I.locs
    rw [RF.put_other (Nat.ne_of_lt hn.lt)]; exact I.locR
  · obtain ⟨a, e1, e2, e3, e4⟩ := I.own x hk ho
    obtain ⟨b, v, p1, p2, _⟩ := I.cels x (.inl hk)
    rw [e1] at p1; cases p1
    exact ⟨a, e1, by rw [RF.put_other (Nat.ne_of_lt p2.lt)]; exact e2, e3, e4⟩
/-- the hidden object changes -/
theorem Inv.rehide {it : Addr} {o o' : Obj} (I : Inv c env Fs (R.put it o) m H h) (hf : ∀ es ep, o.data ≠ .dict es ep) (hcl : ∀ v, o.data ≠ .cell v) (hnt : ¬ TupO o) (hB : c.g.h₀.get? it = none)
    (hs : Heap.SameBut it h h') (ho : h'.get? it = some o') : Inv c env Fs (R.put it o') m H h' ∧ TupKeep h h' := by
  obtain ⟨o2, h1, k⟩ := I.hi.rest it o (RF.put_self ..)
  have := k.of_not hf; subst this
  have tk : TupKeep h h' := fun a z e q => (hs.2 a fun w => by subst w; rw [h1] at e; cases e; exact hnt q).trans e
  have hH : H it = none := by
    cases e : H it with
    | none => rfl
    | some x => obtain ⟨_, q, _⟩ := I.hi.mine it x e; rw [RF.put_self] at q; cases q
  obtain ⟨mv, hn, hm⟩ := I.locs
  have hL : env.locals ≠ it := fun z => by
    obtain ⟨o', es, ep, e', d', _⟩ := hn
    rw [z, h1] at e'; cases e'; exact hf _ _ d'
  have hC : ∀ a v, h.IsCell a v → a ≠ it := fun a v ⟨oc, e1, e2⟩ z => by
    rw [z, h1] at e1; cases e1; exact hcl _ e2
  refine ⟨{
    hi := ⟨fun b z e => (hs.2 b fun w => by rw [w, hB] at e; cases e).trans (I.hi.base b z e), fun b z e => ?_, fun a x e => ?_, fun L hL' => ?_⟩
    locR := ?_
    locB := I.locB
    locH := I.locH
    locs := ⟨mv, hn.sameBut hs hL, fun x p a b => let ⟨v, q, d⟩ := hm x p a b; ⟨v, q, d.keeps tk⟩⟩
    cels := fun x hx => let ⟨d, v, e1, e2, e3⟩ := I.cels x hx; ⟨d, v, e1, e2.sameBut hs (hC _ _ e2), fun p hp => let ⟨w, q, d⟩ := e3 p hp; ⟨w, q, d.keeps tk⟩⟩
    celH := fun x d e => let ⟨q, v, r⟩ := I.celH x d e; ⟨q, v, r.sameBut hs (hC _ _ r)⟩
    own := fun x hk ho => ?_ }, tk⟩
  · by_cases hb : b = it
    · subst hb; rw [RF.put_self] at e; cases e; exact ⟨_, ho, .rfl'⟩
    · rw [RF.put_other hb] at e
      obtain ⟨o3, e3, k3⟩ := I.hi.rest b z (by rw [RF.put_other hb]; exact e)
      exact ⟨o3, (hs.2 b hb).trans e3, k3⟩
  · have ha : a ≠ it := fun z => by rw [z, hH] at e; cases e
    obtain ⟨p, q, o3, e3, x3⟩ := I.hi.mine a x e
    rw [RF.put_other ha] at q
    exact ⟨p, by rw [RF.put_other ha]; exact q, o3, (hs.2 a ha).trans e3, x3.keeps tk⟩
  · obtain ⟨q1, q2, o3, es, ep, q3, q4⟩ := I.hi.frs L hL'
    refine ⟨q1, q2, o3, es, ep, (hs.2 L fun z => ?_).trans q3, q4⟩
    rw [z, h1] at q3; cases q3; exact hf _ _ q4
  · have := I.locR; rw [RF.put_other hL] at this ⊢; exact this
  · obtain ⟨a, e1, e2, e3, e4⟩ := I.own x hk ho
    obtain ⟨b, v, p1, p2, _⟩ := I.cels x (.inl hk)
    rw [e1] at p1; cases p1
    have ha := hC _ _ p2
    rw [RF.put_other ha] at e2
    exact ⟨a, e1, by rw [RF.put_other ha]; exact e2, e3, e4⟩
/-- the hidden object is given up -/
theorem Inv.unhide {it : Addr} {o : Obj} (I : Inv c env Fs (R.put it o) m H h) (hR : R it = none) (hf : ∀ es ep, o.data ≠ .dict es ep) (hcl : ∀ v, o.data ≠ .cell v) (hnt : ¬ TupO o) (hB : c.g.h₀.get? it = none)
    (hs : Heap.ExtBut it h h') : Inv c env Fs R m H h' ∧ TupKeep h h' := by
  obtain ⟨o2, h1, k⟩ := I.hi.rest it o (RF.put_self ..)
  have := k.of_not hf; subst this
  have tk : TupKeep h h' := fun a z e q => hs a z (fun w => by subst w; rw [h1] at e; cases e; exact hnt q) e
  have hH : H it = none := by
    cases e : H it with
    | none => rfl
    | some x => obtain ⟨_, q, _⟩ := I.hi.mine it x e; rw [RF.put_self] at q; cases q
  obtain ⟨mv, hn, hm⟩ := I.locs
  have hL : env.locals ≠ it := fun z => by
    obtain ⟨o', es, ep, e', d', _⟩ := hn
    rw [z, h1] at e'; cases e'; exact hf _ _ d'
  have hC : ∀ a v, h.IsCell a v → a ≠ it := fun a v ⟨oc, e1, e2⟩ z => by
    rw [z, h1] at e1; cases e1; exact hcl _ e2
  have hCk : ∀ a v, h.IsCell a v → h'.IsCell a v := fun a v y => let ⟨oc, e1, e2⟩ := y; ⟨oc, hs a oc (hC a v y) e1, e2⟩
  refine ⟨{
    hi := ⟨fun b z e => hs b z (fun w => by rw [w, hB] at e; cases e) (I.hi.base b z e), fun b z e => ?_, fun a x e => ?_, fun L hL' => ?_⟩
    locR := ?_
    locB := I.locB
    locH := I.locH
    locs := ⟨mv, hn.extBut hs hL, fun x p a b => let ⟨v, q, d⟩ := hm x p a b; ⟨v, q, d.keeps tk⟩⟩
    cels := fun x hx => let ⟨d, v, e1, e2, e3⟩ := I.cels x hx; ⟨d, v, e1, hCk _ _ e2, fun p hp => let ⟨w, q, d⟩ := e3 p hp; ⟨w, q, d.keeps tk⟩⟩
    celH := fun x d e => let ⟨q, v, r⟩ := I.celH x d e; ⟨q, v, hCk _ _ r⟩
    own := fun x hk ho => ?_ }, tk⟩
  · have hb : b ≠ it := fun w => by rw [w, hR] at e; cases e
    obtain ⟨o3, e3, k3⟩ := I.hi.rest b z (by rw [RF.put_other hb]; exact e)
    exact ⟨o3, hs b _ hb e3, k3⟩
  · have ha : a ≠ it := fun z => by rw [z, hH] at e; cases e
    obtain ⟨p, q, o3, e3, x3⟩ := I.hi.mine a x e
    rw [RF.put_other ha] at q
    exact ⟨p, q, o3, hs a _ ha e3, x3.keeps tk⟩
  · obtain ⟨q1, q2, o3, es, ep, q3, q4⟩ := I.hi.frs L hL'
    refine ⟨q1, q2, o3, es, ep, hs L _ (fun z => ?_) q3, q4⟩
    rw [z, h1] at q3; cases q3; exact hf _ _ q4
  · have := I.locR; rw [RF.put_other hL] at this; exact this
  · obtain ⟨a, e1, e2, e3, e4⟩ := I.own x hk ho
    obtain ⟨b, v, p1, p2, _⟩ := I.cels x (.inl hk)
    rw [e1] at p1; cases p1
    have ha := hC _ _ p2
    rw [RF.put_other ha] at e2
    exact ⟨a, e1, e2, e3, e4⟩
theorem goes_plain {M : Model} {A : Around} {E : Value → Shared → Prop} {s : Shared} {target : Expr} {it : Addr} {v : Value} {o : Obj} {vs : Array Value} {n : String} {K : Unit → Shared → Prop} (ho : s.heap.get? it = some o) (hd : o.data = .fields vs) (hc : o.cls = .type n)
    (hn : ["enumerate", "zip", "dict_itemiterator", "dict_reverseitemiterator", "odict_iterator", "itertools.zip_longest", "itertools.pairwise"].contains n = false) (h : K () s) : wpAny M A (letOwnedTupleGo target (.ref it) v) K E s := by
  have core : wpAny M A (do
      let (.ref r, .ref a) := (Value.ref it, v) | return
      let o ← load r
      match o.cls, o.data with
      | .type n, .fields vs =>
        if ["enumerate", "zip", "dict_itemiterator", "dict_reverseitemiterator", "odict_iterator", "itertools.zip_longest", "itertools.pairwise"].contains n && vs[0]? == some (rawInt a) then
          rule "for.unpacks-the-owned-tuple"
          updateField r 0 .none
      | _, _ => pure ()) K E s := by
    cases v <;> first
      | exact wpAny_pure h
      | (refine wpAny_bind (wpAny_load ho ?_)
         rw [hd, hc]
         dsimp only
         rw [hn, Bool.false_and]
         exact wpAny_pure h)
  unfold letOwnedTupleGo
  split <;> first | exact core | exact wpAny_pure h
end
section
variable {c : Cx} {m : Vars} {H : HF}
theorem iterFacts {h : Heap} {src : Src} {i : Nat} {o : Obj} (hi : ItAt h src i o) : (∀ es ep, o.data ≠ .dict es ep) ∧ (∀ v, o.data ≠ .cell v) ∧ ¬ TupO o := by
  obtain ⟨vs, n, d, _⟩ := hi.fields
  exact ⟨fun _ _ q => (by rw [d] at q; cases q), fun _ q => (by rw [d] at q; cases q), fun ⟨_, _, _, q⟩ => (by rw [d] at q; cases q)⟩
theorem codeAny_forLoop' {prog : Program} {w : World} {A : Around} {R : Result → Shared → Prop} {target it body orelse env} (I : Nat → Shared → Prop)
    (turn : ∀ n s, I n s → wpAny (model prog w) A (pyNext it) (fun r s₁ => match r with
      | none => wpAny (model prog w) A (execs orelse env) (fun f s₃ => R (.ok f) s₃) (notedBy (model prog w) A env fun e s' => R (.error e) s') s₁
      | some v => wpAny (model prog w) A (letOwnedTupleGo target it v) (fun _ s₁' => wpAny (model prog w) A (assign target env v) (fun _ s₂ => wpAny (model prog w) A (execs body env) (fun f s₃ => match f with
          | .next | .cont => ∃ m, m < n ∧ I m s₃
          | .brk => R (.ok .next) s₃
          | .ret v => R (.ok (.ret v)) s₃) (notedBy (model prog w) A env fun e s' => R (.error e) s') s₂) (notedBy (model prog w) A env fun e s' => R (.error e) s') s₁') (notedBy (model prog w) A env fun e s' => R (.error e) s') s₁) (notedBy (model prog w) A env fun e s' => R (.error e) s') s)
    (n : Nat) {s : Shared} (h : I n s) : codeAny (model prog w) A (.forLoop target it body orelse env) R s := by
  refine codeAny_loop' rfl I (fun n s hI => ?_) n h
  show wpAny _ _ ((forTurn target it body orelse env).onRaise (fun x => do noteFrame x env; theTreesLotGoes x)) _ _ s
  refine wpAny_noted ?_
  simp only [forTurn]
  refine wpAny_bind (wpAny_standAt (wpAny_bind (wpAny_onRaise (wpAny_mono (turn n s hI) (fun r s₁ h₁ => ?_) fun _ _ h' => wpAny_standAt h'))))
  cases r with
  | none => exact wpAny_pure (.inr ⟨rfl, codeAny_block h₁⟩)
  | some v =>
    refine wpAny_bind (wpAny_mono h₁ (fun _ s₁' h₁' => ?_) fun _ _ h' => h')
    refine wpAny_bind (wpAny_mono h₁' (fun _ s₂ h₂ => wpAny_bind (wpAny_mono h₂ (fun f s₃ h₃ => ?_) fun _ _ h' => h')) fun _ _ h' => h')
    cases f with
    | next => exact wpAny_pure (.inl ⟨rfl, h₃⟩)
    | cont => exact wpAny_pure (.inl ⟨rfl, h₃⟩)
    | brk => exact wpAny_pure h₃
    | ret v => exact wpAny_pure h₃
def notSet : Expr → Bool
  | .Set .. => false
  | _ => true
theorem folded_not {e : Expr} (h : notSet e = true) (env : Env) (x : Value) : foldedSetIterable e env x = pure x := by
  cases e <;> first | rfl | cases h
inductive FI {σ : Type} (c : Cx) (env : Env) (Fs : List Addr) (R : RF) (Mv : σ → Vars) (Hh : σ → HF) (S : Nat → σ → Prop) (src : Src) (it : Addr) (s : Shared) (n : Nat) (s' : Shared) : Prop
  | mk (i : Nat) (st : σ) (o : Obj) (hn : n = src.items.length + 1 - i) (hle : i ≤ src.items.length) (hS : S i st) (hIt : ItAt s'.heap src i o) (I : Inv c env Fs (R.put it o) (Mv st) (Hh st) s'.heap) (e : Same s s')
theorem EvS_ForS {σ : Type} (Mv : Src → σ → Vars) (Hh : Src → σ → HF) (S : Src → Nat → σ → Prop) {t iter : Expr} {b o : List Stmt} {pos : Pos} {Q : Fl → Vars → HF → Prop} (hns : notSet iter = true)
    (hi : EvE c iter m H fun v H1 => ∃ src : Src, src.val = v ∧ src.ok H1 ∧ (∃ st, S src 0 st ∧ Vars.Le (Mv src st) m ∧ (Hh src st).Le H1) ∧
      ∀ i st, S src i st → src.okL (Hh src st) ∧ (∀ x, src.items[i]? = some x → EvA c t x (Mv src st) (Hh src st) fun m1 H2 => EvSs c b m1 H2 (TurnEnd (Mv src) (Hh src) (S src (i + 1)) Q)) ∧ (src.items[i]? = none → EvSs c o (Mv src st) (Hh src st) Q)) :
    EvS c (.For t iter b o pos) m H Q := by
  refine EvM.mk fun A env Fs R s E r eo I => wpAny_For ?_ (folded_not hns env)
  refine wpAny_mono (EvE.run hi r eo I) (fun a s1 ⟨p1, H1, q1, d1, I1, e1, k1⟩ => ?_) fun _ _ x => x
  obtain ⟨src, rfl, hok, ⟨st, hS, hm, hH⟩, turn⟩ := q1
  refine iter_start I1.hi hok d1 fun o0 hI0 hf0 => ?_
  have hB := I1.hi.sizeB
  have hR := I1.hi.sizeR
  have I2 := I1.hide hf0
  refine codeAny_forLoop' (FI c env Fs R (Mv src) (Hh src) (S src) src s1.heap.objs.size s) (fun n s2 hI => ?_) (src.items.length + 1)
    ⟨0, st, o0, rfl, Nat.zero_le _, hS, hI0, I2.less hm hH, e1.trans Same.heap⟩
  obtain ⟨i, st, o, rfl, hle, hS, hIt, I3, e3⟩ := hI
  obtain ⟨t1, t2, t3⟩ := turn i st hS
  obtain ⟨f1, f2, f3⟩ := iterFacts hIt
  obtain ⟨o', ho', ko⟩ := I3.hi.rest _ _ (RF.put_self R s1.heap.objs.size o)
  have := ko.of_not f1; subst this
  refine iter_next r.1 I3.hi t1 ho' hIt (fun p v h' tk o2 hx hs' ho2 hIt2 d2 => ?_) fun h' hx hs' => ?_
  · obtain ⟨I4, k4⟩ := I3.rehide f1 f2 f3 hB hs' ho2
    obtain ⟨vs, n, g1, g2, g3⟩ := hIt2.fields
    refine goes_plain ho2 g1 g2 g3 ?_
    refine wpAny_mono (t2 p hx A env Fs _ { s2 with heap := h', toks := tk } _ v r eo I4 d2) (fun _ s4 ⟨m4, H4, q4, I5, e5, k5⟩ => ?_) fun _ _ x => x
    have I6 : Inv c env Fs (R.put s1.heap.objs.size o2) m4 H4 s4.heap := I5
    refine wpAny_mono (EvM.run q4 r eo I6) (fun f s5 ⟨p5, m5, H5, q5, d5, I7, e7, k7⟩ => ?_) fun _ _ x => x
    have e8 : Same s s5 := (e3.trans (Same.mk.trans e5)).trans e7
    have hlt : i < src.items.length := by
      rcases Nat.lt_or_ge i src.items.length with z | z
      · exact z
      · rw [List.getElem?_eq_none z] at hx; cases hx
    have fin : (∃ st', S src (i + 1) st' ∧ Vars.Le (Mv src st') m5 ∧ (Hh src st').Le H5) → ∃ k, k < src.items.length + 1 - i ∧ FI c env Fs R (Mv src) (Hh src) (S src) src s1.heap.objs.size s k s5 :=
      fun ⟨st', z1, z2, z3⟩ => ⟨_, by omega, i + 1, st', o2, rfl, hlt, z1, hIt2.keeps (k5.trans k7), I7.less z2 z3, e8⟩
    have drop : Inv c env Fs R m5 H5 s5.heap := by
      obtain ⟨f1', f2', f3'⟩ := iterFacts hIt2
      exact (I7.unhide hR f1' f2' f3' hB (fun _ _ _ e => e)).1
    cases p5 with
    | next => cases d5; exact fin q5
    | cont => cases d5; exact fin q5
    | brk => cases d5; exact ⟨.next, m5, H5, q5, rfl, drop, e8⟩
    | ret p => obtain ⟨w, rfl, d⟩ := d5; exact ⟨.ret p, m5, H5, q5, ⟨w, rfl, d⟩, drop, e8⟩
  · obtain ⟨I4, k4⟩ := I3.unhide hR f1 f2 f3 hB hs'
    exact wpAny_mono (EvM.run (t3 hx) r eo (s := { s2 with heap := h' }) I4) (fun v s3 ⟨p3, m3, H3, q3, d3, I5, e5, k3⟩ => ⟨p3, m3, H3, q3, d3, I5, (e3.trans Same.heap).trans e5⟩) fun _ _ x => x
theorem EvS_For {σ : Type} (Mv : σ → Vars) (Hh : σ → HF) (S : Nat → σ → Prop) {t iter : Expr} {b o : List Stmt} {pos : Pos} {Q : Fl → Vars → HF → Prop} (hns : notSet iter = true)
    (hi : EvE c iter m H fun v H1 => ∃ src : Src, src.val = v ∧ src.ok H1 ∧ (∃ st, S 0 st ∧ Vars.Le (Mv st) m ∧ (Hh st).Le H1) ∧
      ∀ i st, S i st → src.okL (Hh st) ∧ (∀ x, src.items[i]? = some x → EvA c t x (Mv st) (Hh st) fun m1 H2 => EvSs c b m1 H2 (TurnEnd Mv Hh (S (i + 1)) Q)) ∧ (src.items[i]? = none → EvSs c o (Mv st) (Hh st) Q)) :
    EvS c (.For t iter b o pos) m H Q := EvS_ForS (fun _ => Mv) (fun _ => Hh) (fun _ => S) hns hi
end
end Mine
end
section
open PySem PySem.Calls PyProof.Rows
namespace Mine
/-- a list object with these items -/
def LAt (h : Heap) (o : Obj) (xs : List PV) : Prop := ∃ vs n, o = { cls := .type "list", data := .seq vs n } ∧ DenL h xs vs.toList
theorem LAt.keeps {h h' : Heap} {o : Obj} {xs : List PV} (k : TupKeep h h') (l : LAt h o xs) : LAt h' o xs := let ⟨vs, n, d, e⟩ := l; ⟨vs, n, d, e.keeps k⟩
theorem LAt.facts {h : Heap} {o : Obj} {xs : List PV} (l : LAt h o xs) : (∀ es ep, o.data ≠ .dict es ep) ∧ (∀ v, o.data ≠ .cell v) ∧ ¬ TupO o ∧ o.isFreed = false := by
  obtain ⟨vs, n, rfl, e⟩ := l
  exact ⟨fun _ _ q => (by cases q), fun _ q => (by cases q), fun ⟨q, _⟩ => (by exact absurd q (by simp)), rfl⟩
theorem append_raw {prog : Program} {w : World} {A : Around} {E : Value → Shared → Prop} {s : Shared} {l : Addr} {o : Obj} {items : Array Value} {n : Nat} {x : Value} {Q : Value → Shared → Prop} (ho : s.heap.get? l = some o) (hc : o.cls = .type "list") (hd : o.data = .seq items n)
    (hsz : items.size ≤ sizeLine) (hQ : Q .none { s with heap := s.heap.update l (Obj.mapSeq (·.push x)) }) :
    wpAny (model prog w) A (call (.builtin "list.append") [.ref l, x]) Q E s := by
  refine wpAny_call_entry slot_list_append ⟨o, ho, hc⟩ entry_list_append ?_ (args_list_append _ _)
  show wpAny _ _ (updateSeq l (·.push x) >>= fun _ => ret .none) _ _ s
  refine wpAny_bind ?_
  exact wpAny_updateSeq ho hd (wpAny_pure ⟨.none, rfl, hQ⟩) hsz (by simp; omega)
theorem append_L {prog : Program} {w : World} {A : Around} {E : Value → Shared → Prop} {s : Shared} {l : Addr} {o : Obj} {xs : List PV} {p : PV} {x : Value} {Q : Value → Shared → Prop} (ho : s.heap.get? l = some o) (hl : LAt s.heap o xs)
    (hd : Den s.heap p x) (hsz : xs.length < 100000) (hQ : ∀ h' o', Heap.SameBut l s.heap h' → h'.get? l = some o' → LAt s.heap o' (xs ++ [p]) → Q .none { s with heap := h' }) :
    wpAny (model prog w) A (call (.builtin "list.append") [.ref l, x]) Q E s := by
  obtain ⟨vs, n, rfl, h4⟩ := hl
  refine append_raw ho rfl rfl ?_ (hQ _ _ (Heap.SameBut.update ..) (Heap.get?_update_self _ ho rfl) ⟨_, _, rfl, ?_⟩)
  · have := h4.length; simp at this; rw [this]; exact sizeL _ (by omega)
  · simpa using h4.append (DenL.one hd)
theorem RF.put_comm {R : RF} {a b : Addr} {x y : Obj} (h : a ≠ b) : (R.put a x).put b y = (R.put b y).put a x := by
  funext c
  unfold RF.put
  by_cases e : c = b
  · by_cases e' : c = a
    · exact absurd (e'.symm.trans e) h
    · rw [if_pos e, if_neg e', if_pos e]
  · by_cases e' : c = a
    · rw [if_neg e, if_pos e', if_pos e']
    · rw [if_neg e, if_neg e', if_neg e', if_neg e]
/-- the loop of a comprehension at a depth; the iterator is at its start -/
def EvG (c : Cx) (e : Expr) (d : Nat) (src : Src) (m : Vars) (acc : List PV) (H : HF) (Q : Vars → List PV → HF → Prop) : Prop :=
  ∀ (A : Around) (env : Env) (Fs : List Addr) (R : RF) (s : Shared) (it a : Addr) (o oa : Obj), Room c.n Fs A → EnvOK c A env → Inv c env Fs ((R.put a oa).put it o) m H s.heap → c.g.h₀.get? it = none → c.g.h₀.get? a = none → R it = none → R a = none → it ≠ a →
    ItAt s.heap src 0 o → LAt s.heap oa acc → src.ok H →
    codeAny (model c.g.prog c.g.w) A (.compLoop e d (.ref it) (.ref a) env) (fun r s' => match r with
      | .ok _ => ∃ m' acc' H' oa', Q m' acc' H' ∧ Inv c env Fs (R.put a oa') m' H' s'.heap ∧ LAt s'.heap oa' acc' ∧ Same s s' ∧ TupKeep s.heap s'.heap
      | .error _ => False) s
def EvIfs (c : Cx) (ifs : List Expr) (m : Vars) (H : HF) (Q : Bool → HF → Prop) : Prop := match ifs with
  | [] => Q true H
  | [t] => EvT c t m H Q
  | _ => False
def EvIn (c : Cx) (e elt : Expr) (gens : List Comprehension) (d : Nat) (m : Vars) (acc : List PV) (H : HF) (K : Vars → List PV → HF → Prop) : Prop :=
  match gens[d]? with
  | none => EvE c elt m H fun y H3 => acc.length < 100000 ∧ K m (acc ++ [y]) H3
  | some ⟨_, iter, _, _⟩ => notSet iter = true ∧ EvE c iter m H fun v H3 => ∃ src : Src, src.val = v ∧ src.ok H3 ∧ EvG c e d src m acc H3 K
theorem compStart_loop {prog : Program} {w : World} {A : Around} {R : Result → Shared → Prop} {s : Shared} {elt : Expr} {gens : List Comprehension} {scope : Scope} {pos : Pos} {d : Nat} {it acc : Value} {env : Env} {target iter : Expr} {ifs : List Expr}
    (hg : gens[d]? = some ⟨target, iter, ifs, 0⟩)
    (h : codeAny (model prog w) A (.compLoop (.ListComp elt gens scope pos) d it acc env) R s)
    (hs : ∀ K E, K it s → wpAny (model prog w) A (pyIter it) K E s) : codeAny (model prog w) A (.compStart (.ListComp elt gens scope pos) d it acc env) R s := by
  refine codeAny_of_tree ?_
  show wpAny _ _ ((compStart (.ListComp elt gens scope pos) d it acc env).onRaise (fun x => do noteFrame x env; standAt theWindowsPlace)) _ _ s
  refine wpAny_notedAt ?_
  unfold compStart
  have hc : clausesOf (.ListComp elt gens scope pos) = gens := rfl
  rw [hc, hg]
  show wpAny _ _ (ask >>= _) _ _ s
  refine wpAny_bind (wpAny_askSetting (wpAny_ite ?_))
  split
  · first
      | exact wpAny_bind (wpAny_pure (wpAny_pure (And.intro rfl h)))
      | exact wpAny_pure (And.intro rfl h)
  · first
      | exact wpAny_bind (wpAny_rule (wpAny_bind (wpAny_standAt (wpAny_bind (hs _ _ (wpAny_pure (And.intro rfl h)))))))
      | (refine wpAny_bind (wpAny_rule ?_); show wpAny _ _ (standAt iter.pos >>= _) _ _ s; exact wpAny_bind (wpAny_standAt (wpAny_bind (hs _ _ (wpAny_pure (And.intro rfl h))))))
theorem iter_self {prog : Program} {w : World} {A : Around} {s : Shared} {src : Src} {i : Nat} {it : Addr} {o : Obj} (ho : s.heap.get? it = some o) (hi : ItAt s.heap src i o) : ∀ (K : Value → Shared → Prop) E, K (.ref it) s → wpAny (model prog w) A (pyIter (.ref it)) K E s := by
  intro K E h
  cases src with
  | list a xs => exact wpAny_pyIter_listiter ⟨o, ho, hi.1, hi.2⟩ h
  | tup xs => obtain ⟨t, h1, h2, _⟩ := hi; exact wpAny_pyIter_tupleiter ⟨o, ho, h1, h2⟩ h
  | range a lo hi' => rw [show o = _ from hi] at ho; exact wpAny_pyIter_rangeiter ho h
  | bytes b => obtain ⟨t, h1, h2⟩ := hi; exact PySem.W.KBw.pyIter_self ⟨o, ho, h1, h2⟩ h
theorem compTurn_last (elt : Expr) (gens : List Comprehension) (scope : Scope) (pos : Pos) (d : Nat) (it acc : Value) (env : Env) {target iter : Expr} {ifs : List Expr} (hg : gens[d]? = some ⟨target, iter, ifs, 0⟩) (hg2 : gens[d + 1]? = none) :
    compTurn (.ListComp elt gens scope pos) d it acc env = (standAt iter.pos >>= fun _ => pyNext it >>= fun r => match r with
      | none => pure (.done .next)
      | some v => letOwnedTupleGo target it v >>= fun _ => assign target env v >>= fun _ =>
        (forIn ifs true fun c r => if r = true then do let ok ← isTrue c env (eval c env); pure (ForInStep.yield ok) else pure (ForInStep.yield r)) >>= fun ok =>
        if ok = true then ((eval elt env >>= fun x => call (.builtin "list.append") [acc, x] >>= fun _ => pure ()) >>= fun _ => again (.compLoop (.ListComp elt gens scope pos) d it acc env))
        else again (.compLoop (.ListComp elt gens scope pos) d it acc env)) := by
  unfold compTurn
  dsimp only
  rw [hg, hg2]
  rfl
theorem compTurn_more (elt : Expr) (gens : List Comprehension) (scope : Scope) (pos : Pos) (d : Nat) (it acc : Value) (env : Env) {target iter : Expr} {ifs : List Expr} (hg : gens[d]? = some ⟨target, iter, ifs, 0⟩) {t2 iter2 : Expr} {ifs2 : List Expr} (hg2 : gens[d + 1]? = some ⟨t2, iter2, ifs2, 0⟩) :
    compTurn (.ListComp elt gens scope pos) d it acc env = (standAt iter.pos >>= fun _ => pyNext it >>= fun r => match r with
      | none => pure (.done .next)
      | some v => letOwnedTupleGo target it v >>= fun _ => assign target env v >>= fun _ =>
        (forIn ifs true fun c r => if r = true then do let ok ← isTrue c env (eval c env); pure (ForInStep.yield ok) else pure (ForInStep.yield r)) >>= fun ok =>
        if ok = true then (eval iter2 env >>= fun x => standAt iter2.pos >>= fun _ => foldedSetIterable iter2 env x >>= fun x => holding [x] (pyIter x) >>= fun i2 =>
            runOwn (.compStart (.ListComp elt gens scope pos) (d + 1) i2 acc env) env >>= fun _ => again (.compLoop (.ListComp elt gens scope pos) d it acc env))
        else again (.compLoop (.ListComp elt gens scope pos) d it acc env)) := by
  unfold compTurn
  dsimp only
  rw [hg, hg2]
  rfl
section
variable {c : Cx}
theorem tests_ok {m : Vars} {H : HF} {ifs : List Expr} {A : Around} {env : Env} {Fs : List Addr} {R : RF} {s : Shared} {E : Value → Shared → Prop} {Q : Bool → HF → Prop} (h : EvIfs c ifs m H Q) (r : Room c.n Fs A) (eo : EnvOK c A env) (I : Inv c env Fs R m H s.heap) :
    wpAny (model c.g.prog c.g.w) A (forIn ifs true fun c r => if r = true then do let ok ← isTrue c env (eval c env); pure (ForInStep.yield ok) else pure (ForInStep.yield r))
      (fun a s' => ∃ H', Q a H' ∧ Inv c env Fs R m H' s'.heap ∧ Same s s' ∧ TupKeep s.heap s'.heap) E s := by
  match ifs, h with
  | [], h => exact wpAny_tests_nil ⟨H, h, I, Same.rfl', TupKeep.refl _⟩
  | [t], h => exact wpAny_tests_one (EvT.run h r eo I)
inductive GI {σ : Type} (c : Cx) (env : Env) (Fs : List Addr) (R : RF) (Mv : σ → Vars) (Hh : σ → HF) (Ac : σ → List PV) (S : Nat → σ → Prop) (src : Src) (it a : Addr) (s : Shared) (n : Nat) (s' : Shared) : Prop
  | mk (i : Nat) (st : σ) (o oa : Obj) (hn : n = src.items.length + 1 - i) (hle : i ≤ src.items.length) (hS : S i st) (hIt : ItAt s'.heap src i o) (hL : LAt s'.heap oa (Ac st)) (I : Inv c env Fs ((R.put a oa).put it o) (Mv st) (Hh st) s'.heap) (e : Same s s') (k : TupKeep s.heap s'.heap)
theorem EvG_mk {σ : Type} (Mv : σ → Vars) (Hh : σ → HF) (Ac : σ → List PV) (S : Nat → σ → Prop) {elt : Expr} {gens : List Comprehension} {scope : Scope} {pos : Pos} {d : Nat} {src : Src} {m : Vars} {acc : List PV} {H : HF} {Q : Vars → List PV → HF → Prop}
    {target iter : Expr} {ifs : List Expr} (hg : gens[d]? = some ⟨target, iter, ifs, 0⟩) (hgs : ∀ g, gens[d + 1]? = some g → g.is_async = 0)
    (h0 : ∃ st, S 0 st ∧ Vars.Le (Mv st) m ∧ (Hh st).Le H ∧ Ac st = acc)
    (h : ∀ i st, S i st → src.okL (Hh st) ∧
      (∀ x, src.items[i]? = some x → EvA c target x (Mv st) (Hh st) fun m1 H1 => EvIfs c ifs m1 H1 fun ok H2 =>
        (ok = true → EvIn c (.ListComp elt gens scope pos) elt gens (d + 1) m1 (Ac st) H2 fun m4 acc4 H4 => ∃ st', S (i + 1) st' ∧ Vars.Le (Mv st') m4 ∧ (Hh st').Le H4 ∧ Ac st' = acc4) ∧
        (ok = false → ∃ st', S (i + 1) st' ∧ Vars.Le (Mv st') m1 ∧ (Hh st').Le H2 ∧ Ac st' = Ac st)) ∧
      (src.items[i]? = none → Q (Mv st) (Ac st) (Hh st))) : EvG c (.ListComp elt gens scope pos) d src m acc H Q := by
  intro A env Fs R s it a o oa r eo I hBi hBa hRi hRa hia hIt hL hok
  obtain ⟨st, hS, hm, hH, rfl⟩ := h0
  refine codeAny_loop rfl (GI c env Fs R Mv Hh Ac S src it a s) (fun n s2 hI => ?_) (src.items.length + 1)
    ⟨0, st, o, oa, rfl, Nat.zero_le _, hS, hIt, hL, I.less hm hH, Same.rfl', TupKeep.refl _⟩
  clear I hIt hL hok hS hm hH
  obtain ⟨i, st, o, oa, rfl, hle, hS, hIt, hL, I, e1, k1⟩ := hI
  obtain ⟨t1, t2, t3⟩ := h i st hS
  obtain ⟨f1, f2, f3⟩ := iterFacts hIt
  obtain ⟨l1, l2, l3, l4⟩ := hL.facts
  show wpAny _ _ ((compTurn (.ListComp elt gens scope pos) d (.ref it) (.ref a) env).onRaise (fun x => do noteFrame x env; theTreesLotGoes x)) _ _ s2
  refine wpAny_noted ?_
  have main : ∀ (tail : Sem Fin) (E : Value → Shared → Prop) (K : Fin → Shared → Prop),
      (∀ m1 H2 s4 o2 E, ItAt s4.heap src (i + 1) o2 → LAt s4.heap oa (Ac st) → Inv c env Fs ((R.put a oa).put it o2) m1 H2 s4.heap → Same s2 s4 → TupKeep s2.heap s4.heap → i < src.items.length →
        EvIn c (.ListComp elt gens scope pos) elt gens (d + 1) m1 (Ac st) H2 (fun m4 acc4 H4 => ∃ st', S (i + 1) st' ∧ Vars.Le (Mv st') m4 ∧ (Hh st').Le H4 ∧ Ac st' = acc4) →
        wpAny (model c.g.prog c.g.w) A tail (fun fin s' => ∃ k, fin = .again (.compLoop (.ListComp elt gens scope pos) d (.ref it) (.ref a) env) ∧ k < src.items.length + 1 - i ∧ GI c env Fs R Mv Hh Ac S src it a s k s') E s4) →
      (∀ m' acc' H' s', Q m' acc' H' → Inv c env Fs (R.put a oa) m' H' s'.heap → LAt s'.heap oa acc' → Same s s' → TupKeep s.heap s'.heap → K (.done .next) s') →
      (∀ k s', (k < src.items.length + 1 - i ∧ GI c env Fs R Mv Hh Ac S src it a s k s') → K (.again (.compLoop (.ListComp elt gens scope pos) d (.ref it) (.ref a) env)) s') →
      wpAny (model c.g.prog c.g.w) A (standAt iter.pos >>= fun _ => pyNext (.ref it) >>= fun r => match r with
      | none => pure (.done .next)
      | some v => letOwnedTupleGo target (.ref it) v >>= fun _ => assign target env v >>= fun _ =>
        (forIn ifs true fun c r => if r = true then do let ok ← isTrue c env (eval c env); pure (ForInStep.yield ok) else pure (ForInStep.yield r)) >>= fun ok =>
        if ok = true then tail else again (.compLoop (.ListComp elt gens scope pos) d (.ref it) (.ref a) env)) K E s2 := by
    intro tail E K htail hdone hagain
    refine wpAny_bind (wpAny_standAt (wpAny_bind ?_))
    obtain ⟨o', ho', ko⟩ := I.hi.rest _ _ (RF.put_self (R.put a oa) it o)
    have := ko.of_not f1; subst this
    refine iter_next r.1 I.hi t1 ho' hIt (fun p v h' tk o2 hx hs' ho2 hIt2 d2 => ?_) fun h' hx hs' => ?_
    · obtain ⟨I4, k4⟩ := I.rehide f1 f2 f3 hBi hs' ho2
      obtain ⟨vs, n, g1, g2, g3⟩ := hIt2.fields
      have hlt : i < src.items.length := by
        rcases Nat.lt_or_ge i src.items.length with z | z
        · exact z
        · rw [List.getElem?_eq_none z] at hx; cases hx
      refine wpAny_bind (goes_plain ho2 g1 g2 g3 (wpAny_bind ?_))
      refine wpAny_mono (t2 p hx A env Fs _ { s2 with heap := h', toks := tk } _ v r eo I4 d2) (fun _ s4 ⟨m4, H4, q4, I5, e5, k5⟩ => ?_) fun _ _ x => x
      refine wpAny_bind (wpAny_mono (tests_ok q4 r eo I5) (fun ok s5 ⟨H5, q5, I6, e6, k6⟩ => ?_) fun _ _ x => x)
      have kk : TupKeep s2.heap s5.heap := (k4.trans k5).trans k6
      have ee : Same s2 s5 := (Same.mk.trans e5).trans e6
      cases ok with
      | true =>
        rw [if_pos rfl]
        refine wpAny_mono (htail m4 H5 s5 o2 _ (hIt2.keeps (k5.trans k6)) (hL.keeps kk) I6 ee kk hlt (q5.1 rfl)) (fun fin s' ⟨k, z1, z2, z3⟩ => ?_) fun _ _ x => x
        subst z1; exact hagain k s' ⟨z2, z3⟩
      | false =>
        rw [if_neg (by decide)]
        obtain ⟨st', z1, z2, z3, z4⟩ := q5.2 rfl
        exact wpAny_pure (hagain _ _ ⟨by omega, i + 1, st', o2, oa, rfl, hlt, z1, hIt2.keeps (k5.trans k6), by rw [z4]; exact hL.keeps kk, I6.less z2 z3, e1.trans ee, k1.trans kk⟩)
    · obtain ⟨I4, k4⟩ := I.unhide (by rw [RF.put_other hia]; exact hRi) f1 f2 f3 hBi hs'
      exact wpAny_pure (hdone _ _ _ { s2 with heap := h' } (t3 hx) I4 (hL.keeps k4) (e1.trans Same.heap) (k1.trans k4))
  cases hg2 : gens[d + 1]? with
  | none =>
    rw [compTurn_last elt gens scope pos d (.ref it) (.ref a) env hg hg2]
    refine main _ _ _ (fun m1 H2 s4 o2 E' hIt2 hL2 I2 e2 k2 hlt hin => ?_) (fun m' acc' H' s' q I' L' e' k' => ⟨m', acc', H', oa, q, I', L', e', k'⟩) (fun k s' z => ⟨rfl, k, z.1, z.2⟩)
    unfold EvIn at hin
    rw [hg2] at hin
    obtain ⟨oa', hoa, ka⟩ := I2.hi.rest a oa (by rw [RF.put_other (Ne.symm hia), RF.put_self])
    refine wpAny_bind (wpAny_bind (wpAny_mono (EvE.run hin r eo I2) (fun v s5 ⟨p5, H5, q5, d5, I5, e5, k5⟩ => ?_) fun _ _ x => x))
    obtain ⟨hsz, st', z1, z2, z3, z4⟩ := q5
    obtain ⟨oa', hoa, ka⟩ := I5.hi.rest a oa (by rw [RF.put_other (Ne.symm hia), RF.put_self])
    have := ka.of_not l1; subst this
    refine wpAny_bind (append_L hoa (hL2.keeps k5) d5 hsz fun h' o' hs' ho' hL' => wpAny_pure (wpAny_pure ?_))
    rw [RF.put_comm (Ne.symm hia)] at I5
    obtain ⟨I6, k6⟩ := I5.rehide l1 l2 l3 hBa hs' ho'
    rw [RF.put_comm hia] at I6
    exact ⟨_, rfl, by omega, i + 1, st', o2, o', rfl, hlt, z1, hIt2.keeps (k5.trans k6), by rw [z4]; exact hL'.keeps k6, I6.less z2 z3, e1.trans ((e2.trans e5).trans Same.heap), k1.trans ((k2.trans k5).trans k6)⟩
  | some g2 =>
    obtain ⟨t2', iter2, ifs2, as2⟩ := g2
    have := hgs _ hg2
    dsimp only at this
    subst this
    rw [compTurn_more elt gens scope pos d (.ref it) (.ref a) env hg hg2]
    refine main _ _ _ (fun m1 H2 s4 o2 E' hIt2 hL2 I2 e2 k2 hlt hin => ?_) (fun m' acc' H' s' q I' L' e' k' => ⟨m', acc', H', oa, q, I', L', e', k'⟩) (fun k s' z => ⟨rfl, k, z.1, z.2⟩)
    unfold EvIn at hin
    rw [hg2] at hin
    obtain ⟨hns, hin⟩ := hin
    refine wpAny_bind (wpAny_mono (EvE.run hin r eo I2) (fun v s5 ⟨p5, H5, ⟨src2, q5, q6, q7⟩, d5, I5, e5, k5⟩ => ?_) fun _ _ x => x)
    subst q5
    refine wpAny_bind (wpAny_standAt (wpAny_bind (wpAny_of_eq (folded_not hns env v) (wpAny_bind (wpAny_holding ?_)))))
    refine iter_start I5.hi q6 d5 fun o5 hI5 hf5 => ?_
    have hB5 := I5.hi.sizeB
    have hR5 := I5.hi.sizeR
    have I6 := I5.hide hf5
    have k6 := (Ext.push s5.heap o5).tup
    have ne1 : s5.heap.objs.size ≠ it := fun z => by rw [z, RF.put_self] at hR5; cases hR5
    have ne2 : s5.heap.objs.size ≠ a := fun z => by rw [z, RF.put_other (Ne.symm hia), RF.put_self] at hR5; cases hR5
    have hR5' : R s5.heap.objs.size = none := by rw [RF.put_other ne1, RF.put_other ne2] at hR5; exact hR5
    rw [RF.put_comm (Ne.symm hia)] at I6
    have run := q7 A env Fs (R.put it o2) { s5 with heap := s5.heap.push o5 } s5.heap.objs.size a o5 oa r eo I6 hB5 hBa (by rw [RF.put_other ne1]; exact hR5') (by rw [RF.put_other (Ne.symm hia)]; exact hRa) ne2 hI5 ((hL2.keeps k5).keeps k6) (by
      exact q6)
    refine wpAny_bind (wpAny_runOwn (h := none) ?_)
    have hm : A.mark none = A := by obtain ⟨a1, a2, a3, a4, a5⟩ := A; rfl
    rw [hm]
    refine compStart_loop hg2 (codeAny_mono run fun rr s7 h7 => ?_) (iter_self (src := src2) (i := 0) (o := o5) (Heap.get?_push_size _ hf5) hI5)
    cases rr with
    | error x => exact h7.elim
    | ok f =>
      obtain ⟨m', acc', H', oa', ⟨st', z1, z2, z3, z4⟩, I7, L7, e7, k7⟩ := h7
      subst z4
      rw [RF.put_comm hia] at I7
      refine wpAny_pure ⟨_, rfl, by omega, i + 1, st', o2, oa', rfl, hlt, z1, hIt2.keeps ((k5.trans k6).trans k7), L7, I7.less z2 z3, e1.trans (((e2.trans e5).trans Same.heap).trans e7), k1.trans (((k2.trans k5).trans k6).trans k7)⟩
end
end Mine
end
section
open PySem PySem.Calls PyProof.Rows
namespace Mine
def relabelS (scope sc : Scope) : Scope :=
  { scope with names := scope.names.map fun (n, k) => if (k == .free && sc.kind == .function && sc.names.lookup n == some .cell) then (n, .cell) else (n, k) }
theorem relabel_eq {scope : Scope} {env : Env} {c : Cx} (h : env.scope = c.sc) : relabel scope env = relabelS scope c.sc := by
  unfold relabel relabelS Env.kindOf; rw [h]
def compVars (scope : Scope) (m : Vars) : Vars := m.filter fun e => scope.names.lookup e.1 == some .free
def compOK (scope sc : Scope) : Bool :=
  scope.kind == .function && scope.names.all (fun x => scope.names.lookup x.1 == some x.2) && scope.names.all (fun x => x.2 != .free || sc.names.lookup x.1 == some .cell || sc.names.lookup x.1 == some .free)
abbrev compCx (c : Cx) (scope : Scope) : Cx := { c with tp := false, ow := fun x => scope.names.lookup x == some .cell, sc := relabelS scope c.sc }
theorem lookup_filter {P : Str → Bool} : ∀ {m : Vars} {x : Str} {p : PV}, (m.filter fun e => P e.1).lookup x = some p → m.lookup x = some p ∧ P x = true
  | [], _, _, h => by cases h
  | (y, q) :: m, x, p, h => by
    rw [List.filter_cons] at h
    cases hp : P y with
    | false =>
      simp only [hp, Bool.false_eq_true, if_false] at h
      obtain ⟨h1, h2⟩ := lookup_filter h
      refine ⟨?_, h2⟩
      rw [List.lookup_cons]
      cases e : x == y with
      | true => rw [eq_of_beq e, hp] at h2; cases h2
      | false => exact h1
    | true =>
      simp only [hp, if_true] at h
      rw [List.lookup_cons] at h ⊢
      cases e : x == y with
      | true => rw [e] at h; exact ⟨h, by rw [eq_of_beq e]; exact hp⟩
      | false => rw [e] at h; exact lookup_filter h
theorem lookup_mem' {β : Type} {x : Str} {c : β} : ∀ {l : List (Str × β)}, l.lookup x = some c → (x, c) ∈ l
  | (y, d) :: l, h => by
    rw [List.lookup_cons] at h
    by_cases e : (x == y) = true
    · rw [e] at h; cases h; rw [eq_of_beq e]; exact .head _
    · have e' : (x == y) = false := by simpa using e
      rw [e'] at h; exact .tail _ (lookup_mem' h)
theorem lookup_relabelS {scope sc : Scope} {x : Str} : (relabelS scope sc).names.lookup x = (scope.names.lookup x).map fun k => if (k == .free && sc.kind == .function && sc.names.lookup x == some .cell) = true then .cell else k := by
  unfold relabelS
  dsimp only
  induction scope.names with
  | nil => rfl
  | cons y r ih =>
    obtain ⟨n, k⟩ := y
    rw [List.map_cons]
    by_cases e : (x == n) = true
    · have e2 := eq_of_beq e
      subst e2
      by_cases q : (k == NameKind.free && sc.kind == ScopeKind.function && List.lookup x sc.names == some NameKind.cell) = true
      · simp only [List.lookup_cons, if_pos q, e, Option.map]
      · simp only [List.lookup_cons, if_neg q, e, Option.map]
    · have e2 : (x == n) = false := by simpa using e
      by_cases q : (k == NameKind.free && sc.kind == ScopeKind.function && List.lookup n sc.names == some NameKind.cell) = true
      · simp only [List.lookup_cons, if_pos q, e2]; exact ih
      · simp only [List.lookup_cons, if_neg q, e2]; exact ih
def clOf (cells : List (Str × Addr)) : List (Str × NameKind) → List (Str × Addr) → List (Str × Addr)
  | [], acc => acc
  | (n, k) :: r, acc => if k == .free then clOf cells r ((n, (cells.lookup n).getD 0) :: acc) else clOf cells r acc
theorem closureFor_clOf {scope : Scope} {env : Env} (h : ∀ x ∈ scope.names, x.2 = .free → (env.cells.lookup x.1).isSome = true) : closureFor scope env = pure (clOf env.cells scope.names []) := by
  unfold closureFor
  have key : ∀ (names : List (Str × NameKind)) (acc : List (Str × Addr)), (∀ x ∈ names, x.2 = .free → (env.cells.lookup x.1).isSome = true) →
      (forIn names acc fun x (cs : List (Str × Addr)) => match x with
        | (name, kind) => if (kind == NameKind.free) = true then do let __do_lift ← cellOf env name; pure (ForInStep.yield ((name, __do_lift) :: cs)) else pure (ForInStep.yield cs) : Sem (List (Str × Addr))) = pure (clOf env.cells names acc) := by
    intro names
    induction names with
    | nil => intro acc _; rfl
    | cons y r ih =>
      intro acc hr
      obtain ⟨n, k⟩ := y
      rw [List.forIn_cons]
      unfold clOf
      by_cases hk : (k == NameKind.free) = true
      · simp only [hk, if_true]
        have hs := hr (n, k) (.head _) (by simpa using hk)
        obtain ⟨a, ha⟩ := Option.isSome_iff_exists.mp hs
        have hc : cellOf env n = pure a := by unfold cellOf; rw [show env.cells.lookup n = some a from ha]
        rw [hc, ha]
        exact ih _ fun x hx => hr x (.tail _ hx)
      · simp only [hk, if_false]
        exact ih _ fun x hx => hr x (.tail _ hx)
  exact (congrArg (fun t : Sem (List (Str × Addr)) => t >>= fun x => pure x) (key scope.names [] h)).trans rfl
theorem clOf_lookup {cells : List (Str × Addr)} : ∀ {names : List (Str × NameKind)} {acc : List (Str × Addr)} {x : Str} {a : Addr}, (∀ x ∈ names, x.2 = .free → (cells.lookup x.1).isSome = true) → (∀ y b, acc.lookup y = some b → cells.lookup y = some b) →
    (clOf cells names acc).lookup x = some a → cells.lookup x = some a
  | [], _, _, _, _, h, e => h _ _ e
  | (n, k) :: r, acc, x, a, hn, h, e => by
    unfold clOf at e
    by_cases hk : (k == NameKind.free) = true
    · rw [if_pos hk] at e
      refine clOf_lookup (fun x hx => hn x (.tail _ hx)) (fun y b e' => ?_) e
      rw [List.lookup_cons] at e'
      cases q : y == n with
      | true =>
        rw [q] at e'; cases e'
        obtain ⟨a, ha⟩ := Option.isSome_iff_exists.mp (hn (n, k) (.head _) (by simpa using hk))
        rw [eq_of_beq q, show cells.lookup n = some a from ha]; rfl
      | false => rw [q] at e'; exact h y b e'
    · rw [if_neg hk] at e
      exact clOf_lookup (fun x hx => hn x (.tail _ hx)) h e
theorem clOf_some {cells : List (Str × Addr)} : ∀ {names : List (Str × NameKind)} {acc : List (Str × Addr)} {x : Str}, (x, NameKind.free) ∈ names ∨ (acc.lookup x).isSome = true → ((clOf cells names acc).lookup x).isSome = true
  | [], _, _, h => h.elim (fun e => by cases e) id
  | (n, k) :: r, acc, x, h => by
    unfold clOf
    by_cases hk : (k == NameKind.free) = true
    · rw [if_pos hk]
      refine clOf_some ?_
      by_cases hx : (x == n) = true
      · exact .inr (by rw [List.lookup_cons, hx]; rfl)
      · have hx' : (x == n) = false := by simpa using hx
        rcases h with h | h
        · rcases List.mem_cons.mp h with e | e
          · cases e; simp at hx
          · exact .inl e
        · exact .inr (by rw [List.lookup_cons, hx']; exact h)
    · rw [if_neg hk]
      refine clOf_some ?_
      rcases h with h | h
      · rcases List.mem_cons.mp h with e | e
        · cases e; simp at hk
        · exact .inl e
      · exact .inr h
theorem cellsFrom_app : ∀ (names : List (Str × NameKind)) (n : Nat) (acc : List (Str × Addr)), cellsFrom n names acc = cellsFrom n names [] ++ acc
  | [], _, _ => rfl
  | (x, k) :: r, n, acc => by
    unfold cellsFrom
    by_cases hk : (k == NameKind.cell) = true
    · rw [if_pos hk, if_pos hk, cellsFrom_app r (n + 1) ((x, n) :: acc), cellsFrom_app r (n + 1) [(x, n)], List.append_assoc]; rfl
    · rw [if_neg hk, if_neg hk]; exact cellsFrom_app r n acc
theorem cellsFrom_mem : ∀ {names : List (Str × NameKind)} {n : Nat} {acc : List (Str × Addr)} {x : Str} {a : Addr}, (x, a) ∈ cellsFrom n names acc → (x, NameKind.cell) ∈ names ∨ (x, a) ∈ acc
  | [], _, _, _, _, h => .inr h
  | (y, k) :: r, n, acc, x, a, h => by
    unfold cellsFrom at h
    by_cases hk : (k == NameKind.cell) = true
    · rw [if_pos hk] at h
      rcases cellsFrom_mem h with q | q
      · exact .inl (.tail _ q)
      · rcases List.mem_cons.mp q with e | e
        · cases e; exact .inl (by rw [eq_of_beq hk]; exact .head _)
        · exact .inr e
    · rw [if_neg hk] at h
      exact (cellsFrom_mem h).imp (.tail _) id
theorem cellsFrom_some' : ∀ {names : List (Str × NameKind)} {n : Nat} {acc : List (Str × Addr)} {x : Str}, (x, NameKind.cell) ∈ names ∨ (acc.lookup x).isSome = true → ((cellsFrom n names acc).lookup x).isSome = true
  | [], _, _, _, h => h.elim (fun e => by cases e) id
  | (y, k) :: r, n, acc, x, h => by
    unfold cellsFrom
    by_cases hk : (k == NameKind.cell) = true
    · rw [if_pos hk]
      refine cellsFrom_some' ?_
      by_cases hx : (x == y) = true
      · exact .inr (by rw [List.lookup_cons, hx]; rfl)
      · have hx' : (x == y) = false := by simpa using hx
        rcases h with h | h
        · rcases List.mem_cons.mp h with e | e
          · cases e; simp at hx
          · exact .inl e
        · exact .inr (by rw [List.lookup_cons, hx']; exact h)
    · rw [if_neg hk]
      refine cellsFrom_some' ?_
      rcases h with h | h
      · rcases List.mem_cons.mp h with e | e
        · cases e; simp at hk
        · exact .inl e
      · exact .inr h
section
variable {g : G} {Fs : List Addr} {R : RF} {H : HF} {h h' : Heap}
theorem HI.hide {o : Obj} (I : HI g Fs R H h) (hf : o.isFreed = false) : HI g Fs (R.put h.objs.size o) H (h.push o) := by
  have J := I.ext (Ext.push h o)
  refine { J with rest := fun b z e => ?_, mine := fun a x e => ?_ }
  · by_cases hb : b = h.objs.size
    · subst hb; rw [RF.put_self] at e; cases e; exact ⟨_, Heap.get?_push_size _ hf, .rfl'⟩
    · rw [RF.put_other hb] at e; exact J.rest b z e
  · obtain ⟨p, q, r⟩ := J.mine a x e
    exact ⟨p, by rw [RF.put_other (fun z => by rw [z, I.sizeH] at e; cases e)]; exact q, r⟩
/-- something that is nobody's changes -/
theorem HI.off {C : Addr} (I : HI g Fs R H h) (hs : Heap.SameBut C h h') (hR : R C = none) (hB : g.h₀.get? C = none) (hH : H C = none) (hF : C ∉ Fs) (hT : ∀ o, h.get? C = some o → ¬ TupO o) : HI g Fs R H h' ∧ TupKeep h h' := by
  have tk : TupKeep h h' := fun a o e q => (hs.2 a fun w => by subst w; exact hT o e q).trans e
  refine ⟨⟨fun b o e => (hs.2 b fun w => by rw [w, hB] at e; cases e).trans (I.base b o e), fun b z e => ?_, fun a x e => ?_, fun L hL => ?_⟩, tk⟩
  · obtain ⟨o', e', k⟩ := I.rest b z e
    exact ⟨o', (hs.2 b fun w => by rw [w, hR] at e; cases e).trans e', k⟩
  · obtain ⟨p, q, o, e3, x3⟩ := I.mine a x e
    exact ⟨p, q, o, (hs.2 a fun w => by rw [w, hH] at e; cases e).trans e3, x3.keeps tk⟩
  · obtain ⟨q1, q2, o, es, ep, q3, q4⟩ := I.frs L hL
    exact ⟨q1, q2, o, es, ep, (hs.2 L fun w => hF (w ▸ hL)).trans q3, q4⟩
/-- the hidden list is ours -/
theorem HI.adopt {a : Addr} {o : Obj} {xs : List PV} (I : HI g Fs (R.put a o) H h) (hR : R a = none) (hB : g.h₀.get? a = none) (hl : LAt h o xs) : HI g Fs R (H.set a (.list xs)) h ∧ H a = none := by
  obtain ⟨o', h1, k⟩ := I.rest a o (RF.put_self ..)
  have := k.of_not hl.facts.1; subst this
  have hH : H a = none := by
    cases e : H a with
    | none => rfl
    | some x => obtain ⟨_, q, _⟩ := I.mine a x e; rw [RF.put_self] at q; cases q
  refine ⟨{ I with rest := fun b z e => ?_, mine := fun b x e => ?_, frs := fun L hL => ?_ }, hH⟩
  · have hb : b ≠ a := fun w => by rw [w, hR] at e; cases e
    exact I.rest b z (by rw [RF.put_other hb]; exact e)
  · by_cases hb : b = a
    · subst hb
      rw [HF.set_self] at e; cases e
      exact ⟨hB, hR, o', h1, hl⟩
    · rw [HF.set_other hb] at e
      obtain ⟨p, q, r⟩ := I.mine b x e
      rw [RF.put_other hb] at q
      exact ⟨p, q, r⟩
  · obtain ⟨q1, q2, o, es, ep, q3, q4⟩ := I.frs L hL
    refine ⟨q1, ?_, o, es, ep, q3, q4⟩
    rw [HF.set_other (fun w => by rw [w, h1] at q3; cases q3; exact hl.facts.1 _ _ q4)]; exact q2
end
end Mine
end
section
open PySem PySem.Calls PyProof.Rows
namespace Mine
section
variable {c : Cx} {m : Vars} {H : HF}
structure CompIn (c : Cx) (scope : Scope) (env cenv : Env) (Fs : List Addr) (R : RF) (m : Vars) (H : HF) (h : Heap) (a it : Addr) (oa o : Obj) : Prop where
  inv : Inv (compCx c scope) cenv Fs ((R.put a oa).put it o) (compVars scope m) H h
  nF : cenv.locals ∉ Fs
theorem comp_enter {scope : Scope} {env : Env} {Fs : List Addr} {R : RF} {s : Shared} {E : Value → Shared → Prop} {A : Around} {o oa : Obj} {K : Env → Shared → Prop} (hok : compOK scope c.sc = true) (eo : EnvOK c A env) (I : Inv c env Fs R m H s.heap) (hfo : o.isFreed = false) (hfa : oa.isFreed = false)
    (hK : ∀ cenv s', EnvOK (compCx c scope) A { cenv with scope := relabel scope env } → Inv (compCx c scope) { cenv with scope := relabel scope env } Fs (((restR H s.heap).put (s.heap.objs.size + 1) oa).put s.heap.objs.size o) (compVars scope m) H s'.heap →
      cenv.locals ∉ Fs → H cenv.locals = none → restR H s.heap cenv.locals = none → c.g.h₀.get? cenv.locals = none → cenv.locals ≠ s.heap.objs.size + 1 → cenv.locals ≠ s.heap.objs.size → Same s s' → Ext s.heap s'.heap → Ext ((s.heap.push o).push oa) s'.heap → s.heap.get? cenv.locals = none → K cenv s') :
    ∃ cl, closureFor scope env = pure cl ∧ wpAny (model c.g.prog c.g.w) A (newFunctionEnv scope env.globals cl [] env.qual none .none (some env)) K E { s with heap := (s.heap.push o).push oa } := by
  unfold compOK at hok
  rw [Bool.and_eq_true, Bool.and_eq_true] at hok
  obtain ⟨⟨hk, hn⟩, hf⟩ := hok
  have hk : scope.kind = .function := by simpa using hk
  rw [List.all_eq_true] at hn hf
  have hcel : ∀ x ∈ scope.names, x.2 = .free → (env.cells.lookup x.1).isSome = true := fun x hx e => by
    have q := hf x hx
    rw [e] at q
    have q' : kindIn c x.1 = some .cell ∨ kindIn c x.1 = some .free := by
      simpa [kindIn] using q
    obtain ⟨a, v, h1, _⟩ := I.cels x.1 q'
    rw [h1]; rfl
  refine ⟨_, closureFor_clOf hcel, ?_⟩
  unfold newFunctionEnv
  simp only [Option.isSome_some, if_true]
  refine wpAny_bind (wpAny_alloc ?_)
  refine wpAny_bind (wpAny_layCells _ (fun name kind cells => by cases hkc : kind == NameKind.cell <;> simp [hkc]) _ _ _ _ ?_)
  rw [List.forIn_nil]
  refine wpAny_bind (wpAny_pure (wpAny_pure ?_))
  -- the heaps
  have e2 : ((s.heap.push o).push oa).objs.size = s.heap.objs.size + 2 := by simp
  have I0 := I.hi.restR
  have I1 := I0.hide hfo
  have I2 := I1.hide hfa
  rw [Heap.size_push, RF.put_comm (a := s.heap.objs.size) (b := s.heap.objs.size + 1) (Nat.ne_of_lt (by omega))] at I2
  have x1 : Ext s.heap ((s.heap.push o).push oa) := (Ext.push _ _).trans (Ext.push _ _)
  have x3 := Ext.push ((s.heap.push o).push oa) { cls := .type "dict", data := .dict #[] }
  have I3 := I2.ext x3
  have x4 : Ext (((s.heap.push o).push oa).push { cls := .type "dict", data := .dict #[] }) (pushCells (((s.heap.push o).push oa).push { cls := .type "dict", data := .dict #[] }) scope.names) := pushCells_keeps scope.names _
  have I4 := I3.ext x4
  have x0 : Ext s.heap (pushCells (((s.heap.push o).push oa).push { cls := .type "dict", data := .dict #[] }) scope.names) := x1.trans (x3.trans x4)
  have ok := cellsFrom_ok scope.names (((s.heap.push o).push oa).push { cls := .type "dict", data := .dict #[] }) (s.heap.objs.size + 3) [] ⟨fun _ _ hm => (nomatch hm), List.Pairwise.nil⟩ (by simp)
  have e3 : (((s.heap.push o).push oa).push { cls := .type "dict", data := .dict #[] } : Heap).objs.size = s.heap.objs.size + 3 := by simp
  rw [e3] at ok
  have big : ∀ d, s.heap.objs.size ≤ d → s.heap.get? d = none := fun d hd => by
    cases q : s.heap.get? d with
    | none => rfl
    | some z => exact absurd (Heap.lt_size q) (Nat.not_lt.mpr hd)
  have bigB : ∀ d, s.heap.objs.size ≤ d → c.g.h₀.get? d = none := fun d hd => by
    cases q : c.g.h₀.get? d with
    | none => rfl
    | some z => have := big d hd; rw [I.hi.base d z q] at this; cases this
  have bigH : ∀ d, s.heap.objs.size ≤ d → H d = none := fun d hd => by
    cases q : H d with
    | none => rfl
    | some z => obtain ⟨_, _, o2, q2, _⟩ := I.hi.mine d z q; rw [big d hd] at q2; cases q2
  have bigR : ∀ d, s.heap.objs.size + 2 ≤ d → ((restR H s.heap).put (s.heap.objs.size + 1) oa).put s.heap.objs.size o d = none := fun d hd => by
    rw [RF.put_other (b := d) (a := s.heap.objs.size) (Nat.ne_of_gt (by omega)), RF.put_other (b := d) (a := s.heap.objs.size + 1) (Nat.ne_of_gt (by omega)), restR_of (bigH d (by omega)), big d (by omega)]
  have hns := (Heap.Ns.new ((s.heap.push o).push oa) (.type "dict")).keeps x4
  rw [e2] at hns
  have hcl : ∀ x a, (clOf env.cells scope.names []).lookup x = some a → env.cells.lookup x = some a := fun x a e => clOf_lookup hcel (fun y b e => by cases e) e
  -- what a cell is
  have cases_ : ∀ x a, (cellsFrom (s.heap.objs.size + 3) scope.names (clOf env.cells scope.names [])).lookup x = some a →
      ((x, a) ∈ cellsFrom (s.heap.objs.size + 3) scope.names [] ∧ s.heap.objs.size + 3 ≤ a ∧ (pushCells (((s.heap.push o).push oa).push { cls := .type "dict", data := .dict #[] }) scope.names).IsCell a none) ∨
      (env.cells.lookup x = some a ∧ a < s.heap.objs.size ∧ (cellsFrom (s.heap.objs.size + 3) scope.names []).lookup x = none) := fun x a e => by
    rw [cellsFrom_app, List.lookup_append] at e
    cases q : (cellsFrom (s.heap.objs.size + 3) scope.names []).lookup x with
    | some b =>
      rw [q] at e
      have : b = a := by simpa using e
      subst this
      have hm := lookup_mem' q
      exact .inl ⟨hm, (ok.empty x b hm).2, (ok.empty x b hm).1⟩
    | none =>
      rw [q] at e
      have e' := hcl x a (by simpa using e)
      obtain ⟨_, v, hv⟩ := I.celH x a e'
      exact .inr ⟨e', hv.lt, rfl⟩
  refine hK _ { s with heap := pushCells (((s.heap.push o).push oa).push { cls := .type "dict", data := .dict #[] }) scope.names } ⟨?_, ?_, eo.globals, eo.builtins, fun q => by cases q⟩ ?_ ?_ ?_ ?_ ?_ ?_ ?_ ?_ x0 (x3.trans x4) ?_
  · exact relabel_eq eo.scope
  · exact hk
  · refine {
      hi := I4
      locR := by show _ = none; simp only [Heap.size_push]; exact bigR _ (by omega)
      locB := by show c.g.h₀.get? _ = none; simp only [Heap.size_push]; exact bigB _ (by omega)
      locH := by show H _ = none; simp only [Heap.size_push]; exact bigH _ (by omega)
      locs := ⟨_, by show Heap.Ns _ _ _; simp only [Heap.size_push]; exact hns, fun x p e hl => ?_⟩
      cels := fun x hx => ?_
      celH := fun x a e => ?_
      own := fun x hx ho => ?_ }
    · obtain ⟨q1, q2⟩ := lookup_filter (P := fun y => scope.names.lookup y == some .free) e
      have q2 : scope.names.lookup x = some .free := by simpa using q2
      have hl' : (relabelS scope c.sc).names.lookup x = some .local := hl
      rw [lookup_relabelS, q2] at hl'
      simp only [Option.map] at hl'
      split at hl' <;> cases hl'
    · have hx' : (relabelS scope c.sc).names.lookup x = some .cell ∨ (relabelS scope c.sc).names.lookup x = some .free := hx
      rw [lookup_relabelS] at hx'
      have base : scope.names.lookup x = some .cell ∨ scope.names.lookup x = some .free := by
        cases q : scope.names.lookup x with
        | none => rw [q] at hx'; rcases hx' with e | e <;> cases e
        | some k =>
          rw [q] at hx'
          simp only [Option.map] at hx'
          by_cases z : (k == NameKind.free && c.sc.kind == ScopeKind.function && List.lookup x c.sc.names == some NameKind.cell) = true
          · simp only [Bool.and_eq_true] at z
            right; rw [eq_of_beq z.1.1]
          · rw [if_neg z] at hx'
            rcases hx' with e | e <;> (cases e) <;> simp
      show ∃ a v, (cellsFrom _ scope.names (clOf env.cells scope.names [])).lookup x = some a ∧ _
      simp only [Heap.size_push]
      rcases base with base | base
      · obtain ⟨a, ha⟩ := Option.isSome_iff_exists.mp (cellsFrom_some' (n := s.heap.objs.size + 3) (acc := clOf env.cells scope.names []) (.inl (lookup_mem' base)))
        refine ⟨a, none, ha, ?_, fun p e => ?_⟩
        · rcases cases_ x a ha with ⟨z1, z2, z3⟩ | ⟨z1, z2, z3⟩
          · exact z3
          · have := cellsFrom_some' (n := s.heap.objs.size + 3) (acc := []) (.inl (lookup_mem' base))
            rw [z3] at this; cases this
        · obtain ⟨_, q2⟩ := lookup_filter (P := fun y => scope.names.lookup y == some .free) e
          rw [base] at q2; cases q2
      · obtain ⟨a, ha⟩ := Option.isSome_iff_exists.mp (cellsFrom_some' (n := s.heap.objs.size + 3) (names := scope.names) (acc := clOf env.cells scope.names []) (x := x) (.inr (clOf_some (.inl (lookup_mem' base)))))
        rcases cases_ x a ha with ⟨z1, z2, z3⟩ | ⟨z1, z2, z3⟩
        · rcases cellsFrom_mem z1 with q | q
          · have := hn _ q
            rw [base] at this; simp at this
          · cases q
        · have kx : kindIn c x = some .cell ∨ kindIn c x = some .free := by
            have := hf _ (lookup_mem' base)
            simpa [kindIn] using this
          obtain ⟨a', v, h1, h2, h3⟩ := I.cels x kx
          rw [z1] at h1; cases h1
          refine ⟨a, v, ha, h2.keeps x0, fun p e => ?_⟩
          obtain ⟨q1, _⟩ := lookup_filter (P := fun y => scope.names.lookup y == some .free) e
          obtain ⟨w, q3, q4⟩ := h3 p q1
          exact ⟨w, q3, q4.keeps x0.tup⟩
    · have e' : (cellsFrom (s.heap.objs.size + 3) scope.names (clOf env.cells scope.names [])).lookup x = some a := by
        have := e; simp only [Heap.size_push] at this; exact this
      rcases cases_ x a e' with ⟨z1, z2, z3⟩ | ⟨z1, z2, z3⟩
      · exact ⟨bigH a (by omega), _, z3⟩
      · obtain ⟨q1, v, q2⟩ := I.celH x a z1
        exact ⟨q1, v, q2.keeps x0⟩
    · have ho' : scope.names.lookup x = some .cell := by simpa [compCx] using ho
      show ∃ a, (cellsFrom _ scope.names (clOf env.cells scope.names [])).lookup x = some a ∧ _
      simp only [Heap.size_push]
      obtain ⟨a, ha⟩ := Option.isSome_iff_exists.mp (cellsFrom_some' (n := s.heap.objs.size + 3) (acc := clOf env.cells scope.names []) (.inl (lookup_mem' ho')))
      rcases cases_ x a ha with ⟨z1, z2, z3⟩ | ⟨z1, z2, z3⟩
      · refine ⟨a, ha, bigR a (by clear ho e3 e2 eo; omega), bigB a (by clear ho e3 e2 eo; omega), fun y d hy e => ?_⟩
        have e' : (cellsFrom (s.heap.objs.size + 3) scope.names (clOf env.cells scope.names [])).lookup y = some d := by
          exact e
        rcases cases_ y d e' with ⟨w1, w2, w3⟩ | ⟨w1, w2, w3⟩
        · intro z; subst z
          exact hy (name_of_addr ok.apart w1 z1)
        · exact Nat.ne_of_lt (Nat.lt_of_lt_of_le w2 (Nat.le_trans (Nat.le_add_right _ 3) z2))
      · have := cellsFrom_some' (n := s.heap.objs.size + 3) (acc := []) (.inl (lookup_mem' ho'))
        rw [z3] at this; cases this
  · show _ ∉ Fs
    intro hL
    simp only [Heap.size_push] at hL
    obtain ⟨_, _, o2, es, ep, q, _⟩ := I.hi.frs _ hL
    rw [big _ (by omega)] at q; cases q
  · show H _ = none; simp only [Heap.size_push]; exact bigH _ (by omega)
  · show restR H s.heap _ = none; simp only [Heap.size_push]; rw [restR_of (bigH _ (by omega)), big _ (by omega)]
  · show c.g.h₀.get? _ = none; simp only [Heap.size_push]; exact bigB _ (by omega)
  · show ((s.heap.push o).push oa).objs.size ≠ _; simp only [Heap.size_push]; omega
  · show ((s.heap.push o).push oa).objs.size ≠ _; simp only [Heap.size_push]; omega
  · exact Same.heap
  · show s.heap.get? _ = none; simp only [Heap.size_push]; exact big _ (by omega)
theorem closureFor_ok {scope : Scope} {env : Env} {Fs : List Addr} {R : RF} {h : Heap} {A : Around} (hok : compOK scope c.sc = true) (eo : EnvOK c A env) (I : Inv c env Fs R m H h) : ∃ cl, closureFor scope env = pure cl := by
  unfold compOK at hok
  rw [Bool.and_eq_true, Bool.and_eq_true] at hok
  obtain ⟨⟨hk, hn⟩, hf⟩ := hok
  rw [List.all_eq_true] at hn hf
  refine ⟨_, closureFor_clOf fun x hx e => ?_⟩
  have q := hf x hx
  rw [e] at q
  have q' : kindIn c x.1 = some .cell ∨ kindIn c x.1 = some .free := by
    simpa [kindIn] using q
  obtain ⟨a, v, h1, _⟩ := I.cels x.1 q'
  rw [h1]; rfl
theorem comp_core {elt : Expr} {gens : List Comprehension} {scope : Scope} {pos : Pos} {target iter : Expr} {ifs : List Expr} {rest : List Comprehension} {use : Option (Value → Sem Unit)} (hgens : gens = ⟨target, iter, ifs, 0⟩ :: rest) (hok : compOK scope c.sc = true) (hns : notSet iter = true)
    {A : Around} {env : Env} {Fs : List Addr} {R : RF} {s : Shared} {E : Value → Shared → Prop} {K : Value → Shared → Prop} {Qa : List PV → HF → Prop} (r : Room c.n Fs A) (eo : EnvOK c A env) (I : Inv c env Fs R m H s.heap)
    (h : EvE c iter m H fun v H1 => ∃ src : Src, src.val = v ∧ src.ok H1 ∧ EvG (compCx c scope) (.ListComp elt gens scope pos) 0 src (compVars scope m) [] H1 (fun _ acc H2 => Qa acc H2))
    (hq : ∀ a C acc H2 s', Qa acc H2 → H2 a = none → Inv c env Fs R m (H2.set a (.list acc)) s'.heap → Same s s' → TupKeep s.heap s'.heap →
      (∃ mv, s'.heap.Ns C mv) → R C = none → c.g.h₀.get? C = none → (H2.set a (.list acc)) C = none → C ∉ Fs → C ≠ env.locals → (∀ x b, env.cells.lookup x = some b → b ≠ C) →
      compPost (model c.g.prog c.g.w) A E use K (.ref a) C (.ok .next) s') :
    wpAny (model c.g.prog c.g.w) A (comprehension (.ListComp elt gens scope pos) scope env (firstIterPos gens pos) (newList []) (firstAsync gens) (firstIter gens env) use) K E s := by
  obtain ⟨cl, hcl⟩ := closureFor_ok hok eo I
  have hk : scope.kind = .function := by
    unfold compOK at hok; rw [Bool.and_eq_true, Bool.and_eq_true] at hok; simpa using hok.1.1
  have hnm : ∀ x ∈ scope.names, x.2 = .local → scope.names.lookup x.1 = some .local := fun x hx e => by
    unfold compOK at hok; rw [Bool.and_eq_true, Bool.and_eq_true, List.all_eq_true] at hok
    have := hok.1.2 x hx; rw [e] at this; simpa using this
  subst hgens
  show wpAny _ A (comprehension (.ListComp elt (⟨target, iter, ifs, 0⟩ :: rest) scope pos) scope env (firstIterPos (⟨target, iter, ifs, 0⟩ :: rest) pos) (newList []) false (eval iter env) use) K E s
  refine wpAny_comprehension_free (g := ⟨target, iter, ifs, 0⟩) (gs := rest) rfl (folded_not hns env) hcl hk hnm ?_
  refine wpAny_mono (EvE.run h r eo I) (fun v s1 ⟨p1, H1, ⟨src, q1, q2, q3⟩, d1, I1, e1, k1⟩ => ?_) fun _ _ x => x
  subst q1
  refine iter_start I1.hi q2 d1 fun o hIt hfo => ?_
  refine wpAny_newList ?_
  obtain ⟨cl', hcl', run⟩ := comp_enter (E := E) (o := o) (oa := { cls := .type "list", data := .seq ([] : List Value).toArray }) (K := fun cenv s₄ =>
        codeAny (model c.g.prog c.g.w) A (.compStart (.ListComp elt (⟨target, iter, ifs, 0⟩ :: rest) scope pos) 0 (.ref s1.heap.objs.size) (.ref (s1.heap.push o).objs.size) { cenv with scope := relabel scope env }) (compPost (model c.g.prog c.g.w) A E use K (.ref (s1.heap.push o).objs.size) cenv.locals) s₄) hok eo I1 hfo rfl
    (fun cenv s5 eo5 I5 nF nH nR nB na nit e5 x5 x5' none5 => by
      have hBi := I1.hi.sizeB
      have hBa : c.g.h₀.get? (s1.heap.objs.size + 1) = none := by
        have := (I1.push (o := o)).hi.sizeB; rw [Heap.size_push] at this; exact this
      have hHi := I1.hi.sizeH
      have hHa : H1 (s1.heap.objs.size + 1) = none := by
        have := (I1.push (o := o)).hi.sizeH; rw [Heap.size_push] at this; exact this
      have big : ∀ d, s1.heap.objs.size ≤ d → s1.heap.get? d = none := fun d hd => by
        cases q : s1.heap.get? d with
        | none => rfl
        | some z => exact absurd (Heap.lt_size q) (Nat.not_lt.mpr hd)
      have hit : s5.heap.get? s1.heap.objs.size = some o := x5' _ _ (Heap.get?_push_of_some _ (Heap.get?_push_size _ hfo))
      have hIt5 : ItAt s5.heap src 0 o := (hIt.keeps (Ext.push _ _).tup).keeps x5'.tup
      have run := q3 A _ Fs (restR H1 s1.heap) s5 s1.heap.objs.size (s1.heap.objs.size + 1) o _ r eo5 I5 hBi hBa (by rw [restR_of hHi, big _ (Nat.le_refl _)]) (by rw [restR_of hHa, big _ (Nat.le_succ _)]) (Nat.ne_of_lt (Nat.lt_succ_self _)) hIt5 ⟨_, _, rfl, rfl⟩ q2
      rw [Heap.size_push]
      refine compStart_loop (target := target) (iter := iter) (ifs := ifs) rfl (codeAny_mono run fun rr s7 h7 => ?_) (iter_self hit hIt5)
      cases rr with
      | error x => exact h7.elim
      | ok f =>
        obtain ⟨m', acc', H', oa', Qa', I7, L7, e7, k7⟩ := h7
        obtain ⟨J, ha⟩ := I7.hi.adopt (by rw [restR_of hHa, big _ (Nat.le_succ _)]) hBa L7
        obtain ⟨J', kt⟩ := Inv.back I1 J
        obtain ⟨mv, hn7, _⟩ := I7.locs
        have nH' : (H'.set (s1.heap.objs.size + 1) (.list acc')) cenv.locals = none := by
          rw [HF.set_other na]; exact I7.locH
        have res := hq (s1.heap.objs.size + 1) cenv.locals acc' H' s7 Qa' ha J' (e1.trans (e5.trans e7)) (k1.trans kt) ⟨mv, hn7⟩ (by
          cases z : R cenv.locals with
          | none => rfl
          | some z' => obtain ⟨_, q, _⟩ := I1.hi.rest _ _ z; rw [none5] at q; cases q) nB nH' nF (by
          obtain ⟨mv', hn', _⟩ := I1.locs
          obtain ⟨o', _, _, z, _⟩ := hn'
          intro w; rw [w, z] at none5; cases none5) (fun x b e w => by
          obtain ⟨_, v, o', z, _⟩ := I1.celH x b e
          rw [w, none5] at z; cases z)
        cases use <;> exact res)
  rw [hcl] at hcl'
  have hcc : cl = cl' := by injection hcl'
  subst hcc
  exact run
theorem EvE_ListComp {elt : Expr} {gens : List Comprehension} {scope : Scope} {pos : Pos} {target iter : Expr} {ifs : List Expr} {rest : List Comprehension} {Q : PV → HF → Prop} (hgens : gens = ⟨target, iter, ifs, 0⟩ :: rest) (hok : compOK scope c.sc = true) (hns : notSet iter = true)
    (h : EvE c iter m H fun v H1 => ∃ src : Src, src.val = v ∧ src.ok H1 ∧ EvG (compCx c scope) (.ListComp elt gens scope pos) 0 src (compVars scope m) [] H1 (fun _ acc H2 => ∀ a, H2 a = none → Q (.ref a) (H2.set a (.list acc)))) :
    EvE c (.ListComp elt gens scope pos) m H Q := by
  refine EvE.mk fun A env Fs R s E r eo I => ?_
  rw [arm_eval_ListComp]
  refine comp_core hgens hok hns r eo I h fun a C acc H2 s' q ha I' e' k' ⟨mv, hn⟩ cR cB cH cF cL cC => ?_
  refine ⟨mv, hn, fun h' hs' => ?_⟩
  have hT : ∀ o, s'.heap.get? C = some o → ¬ TupO o := fun o e q => by
    obtain ⟨o', es, ep, e', d', _⟩ := hn
    obtain ⟨_, vs, n, d⟩ := q
    rw [e] at e'; cases e'; rw [d] at d'; cases d'
  obtain ⟨J, tk⟩ := I'.hi.off hs' cR cB cH cF hT
  obtain ⟨mv', hn', hm'⟩ := I'.locs
  refine ⟨.ref a, _, q a ha, rfl, { I' with hi := J, locs := ⟨mv', hn'.sameBut hs' (Ne.symm cL), fun x p z b => let ⟨v, q, d⟩ := hm' x p z b; ⟨v, q, d.keeps tk⟩⟩, cels := fun x hx => ?_, celH := fun x b e => ?_ }, e'.trans Same.heap⟩
  · obtain ⟨b, v, z1, z2, z3⟩ := I'.cels x hx
    exact ⟨b, v, z1, z2.sameBut hs' (cC x b z1), fun p hp => let ⟨w, q, d⟩ := z3 p hp; ⟨w, q, d.keeps tk⟩⟩
  · obtain ⟨z1, v, z2⟩ := I'.celH x b e
    exact ⟨z1, v, z2.sameBut hs' (cC x b e)⟩
end
end Mine
end
section
open PySem PySem.Calls PyProof.Rows
namespace Mine
section
variable {c : Cx} {m : Vars} {H : HF}
theorem Inv.protect {env : Env} {Fs : List Addr} {R : RF} {h : Heap} {C : Addr} {o : Obj} (I : Inv c env Fs R m H h) (ho : h.get? C = some o) (hH : H C = none) (hL : C ≠ env.locals) (hC : ∀ x b, env.cells.lookup x = some b → b ≠ C) : Inv c env Fs (R.put C o) m H h :=
  { I with
    hi := { I.hi with
      rest := fun b z e => (by
        by_cases hb : b = C
        · subst hb; rw [RF.put_self] at e; cases e; exact ⟨_, ho, .rfl'⟩
        · rw [RF.put_other hb] at e; exact I.hi.rest b z e)
      mine := fun a x e => (by
        obtain ⟨p, q, r⟩ := I.hi.mine a x e
        exact ⟨p, by rw [RF.put_other (fun w => by rw [w, hH] at e; cases e)]; exact q, r⟩) }
    locR := (by rw [RF.put_other (Ne.symm hL)]; exact I.locR)
    own := fun x hk ho => (by
      obtain ⟨a, e1, e2, e3, e4⟩ := I.own x hk ho
      exact ⟨a, e1, by rw [RF.put_other (hC x a e1)]; exact e2, e3, e4⟩) }
theorem Inv.unprotect {env : Env} {Fs : List Addr} {R : RF} {h : Heap} {C : Addr} {o : Obj} (I : Inv c env Fs (R.put C o) m H h) (hR : R C = none) : Inv c env Fs R m H h ∧ H C = none ∧ (∃ o', h.get? C = some o' ∧ Kin o o') ∧ C ≠ env.locals := by
  have hL : C ≠ env.locals := fun w => by have := I.locR; rw [← w, RF.put_self] at this; cases this
  have hH : H C = none := by
    cases e : H C with
    | none => rfl
    | some x => obtain ⟨_, q, _⟩ := I.hi.mine C x e; rw [RF.put_self] at q; cases q
  refine ⟨{ I with
    hi := { I.hi with
      rest := fun b z e => (by
        have hb : b ≠ C := fun w => by rw [w, hR] at e; cases e
        exact I.hi.rest b z (by rw [RF.put_other hb]; exact e))
      mine := fun a x e => (by
        obtain ⟨p, q, r⟩ := I.hi.mine a x e
        rw [RF.put_other (fun w => by rw [w, hH] at e; cases e)] at q
        exact ⟨p, q, r⟩) }
    locR := (by have := I.locR; rw [RF.put_other (Ne.symm hL)] at this; exact this)
    own := fun x hk ho => (by
      obtain ⟨a, e1, e2, e3, e4⟩ := I.own x hk ho
      by_cases w : a = C
      · rw [w, RF.put_self] at e2; cases e2
      · rw [RF.put_other w] at e2; exact ⟨a, e1, e2, e3, e4⟩) }, hH, I.hi.rest C o (RF.put_self ..), hL⟩
theorem EvS_AssignComp {x : Str} {px : Pos} {elt : Expr} {gens : List Comprehension} {scope : Scope} {cpos pos : Pos} {target iter : Expr} {ifs : List Expr} {rest : List Comprehension} {Q : Fl → Vars → HF → Prop}
    (hsw : ∀ env, env.scope = c.sc → swapsWithSole [.Name x px] (.ListComp elt gens scope cpos) pos.line env = pure true) (hk : kindIn c x = some .local)
    (hgens : gens = ⟨target, iter, ifs, 0⟩ :: rest) (hok : compOK scope c.sc = true) (hns : notSet iter = true)
    (h : EvE c iter m H fun v H1 => ∃ src : Src, src.val = v ∧ src.ok H1 ∧ EvG (compCx c scope) (.ListComp elt gens scope cpos) 0 src (compVars scope m) [] H1 (fun _ acc H2 => ∀ a, H2 a = none → Q .next ((x, .ref a) :: m) (H2.set a (.list acc)))) :
    EvS c (.Assign [.Name x px] (.ListComp elt gens scope cpos) pos) m H Q := by
  refine EvM.mk fun A env Fs R s E r eo I => ?_
  rw [arm_exec_Assign, hsw env eo.scope]
  refine wpAny_bind (wpAny_standAt (wpAny_bind (wpAny_pure ?_)))
  simp only [if_true]
  rw [arm_evalThenUse_ListComp]
  refine wpAny_bind (wpAny_bind ?_)
  refine comp_core hgens hok hns r eo I h fun a C acc H2 s' q ha I' e' k' ⟨mv, hn⟩ cR cB cH cF cL cC => ?_
  show wpAny _ A (assign (.Name x px) env (.ref a)) _ E s'
  obtain ⟨oC, es, ep, hoC, hdC, hrC⟩ := hn
  refine wpAny_assign_Name ?_
  have hst : stoOK c x = true := by unfold stoOK; rw [hk]
  refine wpAny_mono (sto (p := .ref a) hst eo (I'.protect hoC cH cL cC) rfl) (fun _ s2 ⟨J, e2, k2⟩ => ?_) fun _ _ x => x
  obtain ⟨J, hH, ⟨oC', hoC', kC⟩, hL⟩ := J.unprotect cR
  refine ⟨mv, ⟨oC', es, ep, hoC', kC.data.1.trans hdC, hrC⟩, fun h' hs' => ?_⟩
  have hT : ∀ o, s2.heap.get? C = some o → ¬ TupO o := fun o e q => by
    obtain ⟨_, vs, n, d⟩ := q
    rw [hoC'] at e; cases e; rw [kC.data.1, hdC] at d; cases d
  obtain ⟨J2, tk⟩ := J.hi.off hs' cR cB cH cF hT
  obtain ⟨mv', hn', hm'⟩ := J.locs
  refine wpAny_pure (wpAny_pure ⟨.next, _, _, q a ha, rfl, { J with hi := J2, locs := ⟨mv', hn'.sameBut hs' (Ne.symm cL), fun x p z b => let ⟨v, q, d⟩ := hm' x p z b; ⟨v, q, d.keeps tk⟩⟩, cels := fun x hx => ?_, celH := fun x b e => ?_ }, (e'.trans e2).trans Same.heap⟩)
  · obtain ⟨b, v, z1, z2, z3⟩ := J.cels x hx
    exact ⟨b, v, z1, z2.sameBut hs' (cC x b z1), fun p hp => let ⟨w, q, d⟩ := z3 p hp; ⟨w, q, d.keeps tk⟩⟩
  · obtain ⟨z1, v, z2⟩ := J.celH x b e
    exact ⟨z1, v, z2.sameBut hs' (cC x b e)⟩
end
/-! calls -/
/-- something that may be called -/
def Callee (g : G) : PV → Prop
  | .builtin _ => True
  | .type _ => True
  | .ref a => ∃ o fd, g.h₀.get? a = some o ∧ o.data = .func fd
  | _ => False
section
variable {c : Cx} {m : Vars} {H : HF} {Q : PV → HF → Prop}
def EvK (c : Cx) (pos : Pos) (es : List Keyword) (m : Vars) (H : HF) (Q : List (Str × PV) → HF → Prop) : Prop :=
  EvM c (fun env => evalAll ((backToKw pos (keywordEach es env)).map (·.2))) m H (fun h (ps : List (Str × PV)) vs => DenL h (ps.map (·.2)) vs ∧ ps.map (fun p => some p.1) = es.map (·.arg)) (fun p m' H' => m' = m ∧ Q p H')
theorem EvK.run {pos : Pos} {es : List Keyword} {Q : List (Str × PV) → HF → Prop} {A : Around} {env : Env} {Fs : List Addr} {R : RF} {s : Shared} {E : Value → Shared → Prop} (h : EvK c pos es m H Q) (r : Room c.n Fs A) (eo : EnvOK c A env) (I : Inv c env Fs R m H s.heap) :
    wpAny (model c.g.prog c.g.w) A (evalAll ((backToKw pos (keywordEach es env)).map (·.2))) (fun a s' => ∃ p H', Q p H' ∧ (DenL s'.heap (p.map (·.2)) a ∧ p.map (fun p => some p.1) = es.map (·.arg)) ∧ Inv c env Fs R m H' s'.heap ∧ Same s s' ∧ TupKeep s.heap s'.heap) E s := by
  refine wpAny_mono (EvM.run h r eo I) (fun a s' x => ?_) fun _ _ x => x
  obtain ⟨p, m', H', ⟨rfl, h1⟩, h2, h3, h4⟩ := x
  exact ⟨p, H', h1, h2, h3, h4⟩
theorem EvK_nil {pos : Pos} {Q : List (Str × PV) → HF → Prop} (h : Q [] H) : EvK c pos [] m H Q :=
  EvM.mk fun A env Fs R s E r eo I => wpAny_pure ⟨[], m, H, ⟨rfl, h⟩, ⟨rfl, rfl⟩, I, Same.rfl'⟩
theorem EvK_cons {pos kp : Pos} {x : Str} {e : Expr} {rest : List Keyword} {Q : List (Str × PV) → HF → Prop} (h : EvE c e m H fun v H1 => EvK c pos rest m H1 fun vs H2 => Q ((x, v) :: vs) H2) : EvK c pos (⟨some x, e, kp⟩ :: rest) m H Q := by
  refine EvM.mk fun A env Fs R s E r eo I => ?_
  show wpAny _ A (do
    let v ← (do let v ← eval e env; standAt pos; pure v : Sem Value)
    return v :: (← holding [v] (evalAll ((backToKw pos (keywordEach rest env)).map (·.2))))) _ E s
  refine wpAny_bind (wpAny_bind (wpAny_mono (EvE.run h r eo I) (fun a s1 ⟨p1, H1, q1, d1, I1, e1, k1⟩ => wpAny_bind (wpAny_standAt (wpAny_pure ?_))) fun _ _ x => x))
  refine wpAny_bind (wpAny_holding (wpAny_mono (EvK.run q1 r eo I1) (fun b s2 ⟨p2, H2, q2, ⟨d2, n2⟩, I2, e2, k2⟩ => wpAny_pure ?_) fun _ _ x => x))
  exact ⟨(x, p1) :: p2, m, H2, ⟨rfl, q2⟩, ⟨⟨a, b, rfl, d1.keeps k2, d2⟩, by simp [n2]⟩, I2, e1.trans e2⟩
theorem kwNames : ∀ {es : List Keyword} {ps : List (Str × PV)} (pos : Pos) (env : Env), ps.map (fun p => some p.1) = es.map (·.arg) →
    ((backToKw pos (keywordEach es env)).all (·.1.isSome) = true ∧ (backToKw pos (keywordEach es env)).filterMap (·.1) = ps.map (·.1) ∧ (backToKw pos (keywordEach es env)).any (·.1.isNone) = false ∧ (backToKw pos (keywordEach es env)).length = es.length)
  | [], [], _, _, _ => ⟨rfl, rfl, rfl, rfl⟩
  | [], _ :: _, _, _, h => by cases h
  | _ :: _, [], _, _, h => by cases h
  | ⟨n, v, kp⟩ :: es, (x, p) :: ps, pos, env, h => by
    simp only [List.map_cons, List.cons.injEq] at h
    obtain ⟨h1, h2⟩ := h
    obtain ⟨i1, i2, i3, i4⟩ := kwNames pos env h2
    subst h1
    have e : backToKw pos (keywordEach (⟨some x, v, kp⟩ :: es) env) = (some x, (do let v ← eval v env; standAt pos; pure v : Sem Value)) :: backToKw pos (keywordEach es env) := rfl
    rw [e]
    refine ⟨?_, ?_, ?_, ?_⟩
    · rw [List.all_cons, i1]; rfl
    · rw [List.filterMap_cons]; simp only [List.map_cons, i2]
    · rw [List.any_cons, i3]; rfl
    · rw [List.length_cons, i4, List.length_cons]
theorem noStars : ∀ {es : List Expr} (pos : Pos) (env : Env), es.all (fun e => !isStar e) = true → (backTo pos (starEach es env)).any (·.1) = false ∧ (backTo pos (starEach es env)).all (fun x => !x.1) = true
  | [], _, _, _ => ⟨rfl, rfl⟩
  | e :: es, pos, env, h => by
    rw [List.all_cons, Bool.and_eq_true] at h
    obtain ⟨i1, i2⟩ := noStars pos env h.2
    rw [star_of (by simpa using h.1)]
    have q : backTo pos ((false, eval e env) :: starEach es env) = (false, eval e env) :: backTo pos (starEach es env) := rfl
    rw [q]
    exact ⟨by rw [List.any_cons, i1]; rfl, by rw [List.all_cons, i2]; rfl⟩
theorem backTo_shape (es : List Expr) (pos : Pos) (env : Env) (h : es.all (fun e => !isStar e) = true) (x : Sem Value) : backTo pos (starEach es env) ≠ [(true, x)] := fun e => by
  have := (noStars pos env h).1
  rw [e] at this; cases this
theorem callWith_any {A : Around} {env : Env} {s : Shared} {E : Value → Shared → Prop} {pos : Pos} {f : Value} {first : List Value} {args : List Expr} {kws : List Keyword} {K : Value → Shared → Prop} {ps : List Str} {M : Model}
    (ha : args.all (fun e => !isStar e) = true) (hk : (backToKw pos (keywordEach kws env)).all (·.1.isSome) = true) (hn : (backToKw pos (keywordEach kws env)).any (·.1.isNone) = false)
    (h : wpAny M A (spliced (backTo pos (starEach args env))) (fun vs s1 => wpAny M A (evalAll ((backToKw pos (keywordEach kws env)).map (·.2))) (fun kvs s2 =>
      ((∀ a, f ≠ .ref a) ∨ ∃ a o fd, f = .ref a ∧ s2.heap.get? a = some o ∧ o.data = .func fd) ∧ wpAny M A (call f (first ++ vs) (((backToKw pos (keywordEach kws env)).filterMap (·.1)).zip kvs)) K E s2) E s1) E s) :
    wpAny M A (callWith pos f first (backTo pos (starEach args env)) (backToKw pos (keywordEach kws env))) K E s := by
  have ev : wpAny M A (evalArgs f true (backTo pos (starEach args env)) (backToKw pos (keywordEach kws env))) (fun a s2 => ((∀ a, f ≠ .ref a) ∨ ∃ a o fd, f = .ref a ∧ s2.heap.get? a = some o ∧ o.data = .func fd) ∧ wpAny M A (call f (first ++ a.pos) a.kw) K E s2) E s := by
    unfold evalArgs
    dsimp only
    split
    · rename_i q; exact absurd q (backTo_shape args pos env ha _)
    refine wpAny_bind (wpAny_mono h (fun vs s1 h1 => wpAny_bind (wpAny_pure ?_)) fun _ _ x => x)
    refine wpAny_holding ?_
    dsimp only
    rw [if_pos hk]
    refine wpAny_bind (wpAny_mono h1 (fun kvs s2 h2 => ?_) fun _ _ x => x)
    refine wpAny_bind (wpAny_pure (wpAny_pure h2))
  unfold callWith
  refine wpAny_bind (wpAny_holding (wpAny_mono ev (fun a s2 ⟨hf, hc⟩ => ?_) fun _ _ x => x))
  have tail : ∀ {t : Sem Value}, wpAny M A t K E s2 → wpAny M A (t >>= fun r => holding [r] point >>= fun _ => pure r) K E s2 :=
    fun ht => wpAny_bind (wpAny_mono ht (fun r s₂ hr => wpAny_bind (wpAny_holding (wpAny_point (wpAny_pure hr)))) fun _ _ x => x)
  refine wpAny_bind (wpAny_standAt ?_)
  have hs := (noStars pos env ha).1
  simp only [hs, hn, Bool.or_self]
  rcases hf with hf | ⟨b, o, fd, rfl, ho, hd⟩
  · have hkp : keeperOf f = pure .machine := by
      unfold keeperOf
      cases f <;> first | rfl | exact absurd rfl (hf _)
    rw [hkp]
    refine wpAny_bind (wpAny_pure ?_)
    exact tail hc
  · refine wpAny_bind (m := keeperOf (.ref b)) ?_
    unfold keeperOf
    refine wpAny_bind (wpAny_load ho ?_)
    rw [hd]
    refine wpAny_pure ?_
    dsimp only
    first
      | (refine wpAny_ite ?_; split)
      | split
    · exact tail hc
    · exact tail (by unfold callMarked; exact wpAny_keep hc)
theorem kwAll : ∀ {es : List Keyword} (pos : Pos) (env : Env), es.all (fun k => k.arg.isSome) = true → (backToKw pos (keywordEach es env)).all (·.1.isSome) = true ∧ (backToKw pos (keywordEach es env)).any (·.1.isNone) = false
  | [], _, _, _ => ⟨rfl, rfl⟩
  | ⟨n, v, kp⟩ :: es, pos, env, h => by
    rw [List.all_cons, Bool.and_eq_true] at h
    obtain ⟨i1, i2⟩ := kwAll pos env h.2
    have e : backToKw pos (keywordEach (⟨n, v, kp⟩ :: es) env) = (n, (do let v ← eval v env; standAt pos; pure v : Sem Value)) :: backToKw pos (keywordEach es env) := rfl
    rw [e]
    obtain ⟨x, rfl⟩ := Option.isSome_iff_exists.mp h.1
    exact ⟨by rw [List.all_cons, i1]; rfl, by rw [List.any_cons, i2]; rfl⟩
theorem EvE_Call {x : Str} {xp pos : Pos} {args : List Expr} {kws : List Keyword} (ha : args.all (fun e => !isStar e) = true) (hkw : kws.all (fun k => k.arg.isSome) = true)
    (h : EvE c (.Name x xp) m H fun f H1 => EvL c pos args m H1 fun vs H2 => EvK c pos kws m H2 fun kv H3 => Callee c.g f ∧ Calls c.g c.n f vs kv H3 Q) : EvE c (.Call (.Name x xp) args kws pos) m H Q := by
  refine EvE.mk fun A env Fs R s E r eo I => wpAny_Call_Name_kw ?_
  refine wpAny_mono (EvE.run h r eo I) (fun f s1 ⟨p1, H1, q1, d1, I1, e1, k1⟩ => ?_) fun _ _ x => x
  refine callWith_any (ps := []) ha (kwAll pos env hkw).1 (kwAll pos env hkw).2 ?_
  refine wpAny_mono (EvL.run q1 r eo I1) (fun vs s2 ⟨p2, H2, q2, d2, I2, e2, k2⟩ => ?_) fun _ _ x => x
  refine wpAny_mono (EvK.run q2 r eo I2) (fun kvs s3 ⟨p3, H3, ⟨hc, q3⟩, ⟨d3, n3⟩, I3, e3, k3⟩ => ?_) fun _ _ x => x
  have n3' := (kwNames pos env n3).2.1
  rw [n3']
  refine ⟨?_, ?_⟩
  · cases p1 <;> first
      | exact hc.elim
      | (left; intro a q; subst q; cases d1; done)
      | (obtain ⟨o, fd, h1, h2⟩ := hc
         cases d1
         exact .inr ⟨_, o, fd, rfl, I3.hi.base _ _ h1, h2⟩)
  · show wpAny _ A (call f ([] ++ vs) _) _ E s3
    rw [List.nil_append]
    refine wpAny_mono (Op.runI (q3 f vs kvs) r I3 ⟨(d1.keeps k2).keeps k3, d2.keeps k3, d3⟩) (fun v s4 ⟨p4, H4, q4, d4, I4, e4, k4⟩ => ?_) fun _ _ x => x
    exact ⟨p4, H4, q4, d4, I4, ((e1.trans e2).trans e3).trans e4⟩
def notCallE : Expr → Bool
  | .Call .. => false
  | _ => true
theorem base_not {o : Expr} (h : notCallE o = true) (name : Str) (env : Env) : attributeBase o name env (eval o env) = eval o env := by
  cases o <;> first | rfl | cases h
theorem meth_list {o : Expr} {name : Str} {apos pos : Pos} {args : List Expr} {id : String} (ha : args.all (fun e => !isStar e) = true) (ho : notCallE o = true) (hl : (apos.endLine == pos.line) = true) (hlen : decide (args.length < 20) = true)
    (slot : Slot "list" name.toString id) (hnm : Str.ofString name.toString = name) (hty : typeOf (.builtin id) = pure (.type "method_descriptor"))
    (h : EvE c o m H fun ov H1 => ∃ a xs, ov = .ref a ∧ H1 a = some (.list xs) ∧ EvL c pos args m H1 fun vs H2 => Calls c.g c.n (.builtin id) (ov :: vs) [] H2 Q) : EvE c (.Call (.Attribute o name apos) args [] pos) m H Q := by
  refine EvE.mk fun A env Fs R s E r eo I => ?_
  have hfew : ((backTo pos (starEach args env)).all (fun x => !x.1) && (backToKw pos (keywordEach [] env)).all (fun x => x.1.isSome)
      && decide (args.length + ([] : List Keyword).length + (if ([] : List Keyword).isEmpty then 0 else 1) < 30)) = true := by
    rw [(noStars pos env ha).2]
    have := of_decide_eq_true hlen
    simp only [Bool.true_and, Bool.and_eq_true, decide_eq_true_eq]
    exact ⟨rfl, by simp; omega⟩
  refine wpAny_Call_method (T := "list") (id := id) (base_not ho name env) hfew hl F.plainAttrs_list (by rw [← hnm]; exact slot) hty ?_
  refine wpAny_mono (EvE.run h r eo I) (fun ov s1 ⟨p1, H1, ⟨a, xs, e, hH, q1⟩, d1, I1, e1, k1⟩ => ?_) fun _ _ x => x
  subst e
  cases d1
  obtain ⟨_, _, ob, hob, vs, n, rfl, _⟩ := I1.hi.mine a _ hH
  refine ⟨⟨_, hob, rfl⟩, fun b q => ?_, ?_⟩
  · cases q; exact ⟨_, hob, rfl⟩
  · refine callWith_any (ps := []) (kws := []) ha rfl rfl ?_
    refine wpAny_mono (EvL.run q1 r eo I1) (fun vs s2 ⟨p2, H2, q2, d2, I2, e2, k2⟩ => ?_) fun _ _ x => x
    refine wpAny_pure ⟨.inl fun _ q => (by cases q), ?_⟩
    refine wpAny_mono (Op.runI (q2 (.builtin id) (.ref a :: vs) []) r I2 ⟨rfl, ⟨_, _, rfl, rfl, d2⟩, rfl⟩) (fun v s4 ⟨p4, H4, q4, d4, I4, e4, k4⟩ => ?_) fun _ _ x => x
    exact ⟨p4, H4, q4, d4, I4, (e1.trans e2).trans e4⟩
end
end Mine
end
section
open PySem PySem.Calls PyProof.Rows
namespace Mine
def noDup : List Str → Bool
  | [] => true
  | x :: r => !r.contains x && noDup r
theorem bindL_skip (kindOf : Str → Option NameKind) : ∀ (binds : List (Str × Value)) (m : Str → Option Value) (x : Str), x ∉ binds.map (·.1) → bindL kindOf binds m x = m x
  | [], _, _, _ => rfl
  | (n, v) :: r, m, x, h => by
    unfold bindL
    rw [bindL_skip kindOf r _ x (fun q => h (List.mem_cons_of_mem _ q))]
    split
    · exact if_neg fun (q : x = n) => h (by rw [q]; exact List.mem_cons_self)
    · rfl
theorem bindC_skip (kindOf : Str → Option NameKind) : ∀ (binds : List (Str × Value)) (m : Str → Option Value) (x : Str), x ∉ binds.map (·.1) → bindC kindOf binds m x = m x
  | [], _, _, _ => rfl
  | (n, v) :: r, m, x, h => by
    unfold bindC
    rw [bindC_skip kindOf r _ x (fun q => h (List.mem_cons_of_mem _ q))]
    split
    · rfl
    · exact if_neg fun (q : x = n) => h (by rw [q]; exact List.mem_cons_self)
theorem noDup_cons {x : Str} {r : List Str} (h : noDup (x :: r) = true) : x ∉ r ∧ noDup r = true := by
  unfold noDup at h
  rw [Bool.and_eq_true] at h
  exact ⟨by simpa using h.1, h.2⟩
theorem bindL_get {kindOf : Str → Option NameKind} {x : Str} (hk : kindOf x = some .local) : ∀ {binds : List (Str × Value)} {m : Str → Option Value} {v : Value}, noDup (binds.map (·.1)) = true → binds.lookup x = some v → bindL kindOf binds m x = some v
  | (n, w) :: r, m, v, hn, h => by
    obtain ⟨h1, h2⟩ := noDup_cons hn
    rw [List.lookup_cons] at h
    unfold bindL
    cases q : x == n with
    | true =>
      rw [q] at h; cases h
      have := eq_of_beq q; subst this
      rw [bindL_skip _ _ _ _ h1, if_pos hk, if_pos rfl]
    | false => rw [q] at h; exact bindL_get hk h2 h
theorem bindC_get {kindOf : Str → Option NameKind} {x : Str} (hk : kindOf x ≠ some .local) : ∀ {binds : List (Str × Value)} {m : Str → Option Value} {v : Value}, noDup (binds.map (·.1)) = true → binds.lookup x = some v → bindC kindOf binds m x = some v
  | (n, w) :: r, m, v, hn, h => by
    obtain ⟨h1, h2⟩ := noDup_cons hn
    rw [List.lookup_cons] at h
    unfold bindC
    cases q : x == n with
    | true =>
      rw [q] at h; cases h
      have := eq_of_beq q; subst this
      rw [bindC_skip _ _ _ _ h1, if_neg hk, if_pos rfl]
    | false => rw [q] at h; exact bindC_get hk h2 h
def BDen (h : Heap) (pb : Vars) (binds : List (Str × Value)) : Prop := binds.map (·.1) = pb.map (·.1) ∧ DenL h (pb.map (·.2)) (binds.map (·.2))
theorem BDen.get {h : Heap} : ∀ {pb : Vars} {binds : List (Str × Value)} {x : Str} {p : PV}, BDen h pb binds → pb.lookup x = some p → ∃ v, binds.lookup x = some v ∧ Den h p v
  | [], _, _, _, _, e => by cases e
  | (n, q) :: pb, [], _, _, ⟨e1, _⟩, _ => by cases e1
  | (n, q) :: pb, (n', w) :: binds, x, p, ⟨e1, e2⟩, e => by
    simp only [List.map_cons, List.cons.injEq] at e1
    obtain ⟨rfl, e1⟩ := e1
    obtain ⟨d1, d2⟩ := DenL.cons_inv e2
    rw [List.lookup_cons] at e ⊢
    cases z : x == n' with
    | true => rw [z] at e; cases e; exact ⟨w, rfl, d1⟩
    | false => rw [z] at e; exact BDen.get ⟨e1, d2⟩ e
/-- what the parameters become -/
def Binds (g : G) (fd : FuncData) (vs : List PV) (kw : List (Str × PV)) (pb : Vars) : Prop :=
  ∀ (s : Shared) (vvs kvs : List Value), (∀ b o, g.h₀.get? b = some o → s.heap.get? b = some o) → DenL s.heap vs vvs → DenL s.heap (kw.map (·.2)) kvs → ∃ binds, BindsTo s fd ⟨vvs, (kw.map (·.1)).zip kvs⟩ binds ∧ BDen s.heap pb binds
def retV : Fl → PV
  | .ret v => v
  | _ => .none
def fnOK (sc : Scope) (pb : Vars) : Bool :=
  sc.kind == .function && !sc.isCoroutine && !sc.isGenerator && sc.names.all (fun x => x.2 != .free) && noDup (pb.map (·.1)) && pb.all (fun x => sc.names.lookup x.1 == some .local || sc.names.lookup x.1 == some .cell)
/-- within a function -/
abbrev fnCx (g : G) (n : Nat) (sc : Scope) : Cx := ⟨g, n, true, fun x => sc.names.lookup x == some .cell, sc⟩
theorem call_core {g : G} {n : Nat} {a : Addr} {o : Obj} {fd : FuncData} {body : List Stmt} {vs : List PV} {kw : List (Str × PV)} {pb : Vars} {H : HF} (ho : g.h₀.get? a = some o) (hd : o.data = .func fd) (hbody : fd.body = .stmts body) (hok : fnOK fd.scope pb = true)
    (hclo : fd.closure = []) (hgl : fd.globals = mainGlobals) (hbl : fd.builtins = builtinsNs) (hcd : g.h₀.CodeRec fd.code fd.qualname) (hb : Binds g fd vs kw pb)
    {A : Around} {Fs : List Addr} {R : RF} {s : Shared} {E : Value → Shared → Prop} {K : Value → Shared → Prop} {vvs kvs : List Value} (r : Room (n + 1) Fs A) (I : HI g Fs R H s.heap) (d2 : DenL s.heap vs vvs) (d3 : DenL s.heap (kw.map (·.2)) kvs)
    (h : ∀ (env : Env) (s' : Shared) (l : List Env), A.frames = some l → env.frame = some env.locals → Room n (env.locals :: Fs) (A.deeper env) → EnvOK (fnCx g n fd.scope) (A.deeper env) env → Inv (fnCx g n fd.scope) env (env.locals :: Fs) R pb H s'.heap → Ext s.heap s'.heap → Same s s' → (A.deeper env).frames = some (env :: l) →
      wpAny (model g.prog g.w) (A.deeper env) (execs body env) (fun f s2 => K (match f with | .ret v => v | _ => .none) s2) (fun e s2 => wpAny (model g.prog g.w) (A.deeper env) (leaving env e) (fun _ s3 => E e s3) (fun e' s3 => E e' s3) s2) s') :
    wpAny (model g.prog g.w) A (call (.ref a) vvs ((kw.map (·.1)).zip kvs)) K E s := by
  unfold fnOK at hok
  simp only [Bool.and_eq_true] at hok
  obtain ⟨⟨⟨⟨⟨k1, k2⟩, k3⟩, k4⟩, k5⟩, k6⟩ := hok
  have k1 : fd.scope.kind = .function := by simpa using k1
  have k2 : fd.scope.isCoroutine = false := by simpa using k2
  have k3 : fd.scope.isGenerator = false := by simpa using k3
  rw [List.all_eq_true] at k4 k6
  obtain ⟨binds, hbind, hbd⟩ := hb s vvs kvs I.base d2 d3
  obtain ⟨rh, rd, ru, l, rf, rl, rk⟩ := r
  have bmem : ∀ x ∈ binds, fd.scope.names.lookup x.1 = some .local ∨ fd.scope.names.lookup x.1 = some .cell := fun x hx => by
    have : x.1 ∈ pb.map (·.1) := by rw [← hbd.1]; exact List.mem_map_of_mem hx
    obtain ⟨y, hy, e⟩ := List.mem_map.mp this
    have := k6 y hy
    rw [e] at this
    simpa using this
  refine wpAny_call (codeAny_call_function (by show A.depth < 1000; omega) (I.base _ _ ho) hd k2 k3 hbody (hcd.keeps I.base) ?_)
  refine hbind _ _ _ _ ?_
  rw [hclo]
  refine wpAny_newFunctionEnv_cells k1 (fun x hx => (bmem x hx).imp id fun e => ⟨e, cellsFrom_some' (.inl (lookup_mem' e))⟩) fun env he s' X => ?_
  have hx := X.toInCall
  have keep := hx.keep
  have kE : Ext s.heap s'.heap := keep
  have hL : s.heap.objs.size ≤ env.locals := hx.fresh
  have big : ∀ d, s.heap.objs.size ≤ d → s.heap.get? d = none := fun d hd => by
    cases q : s.heap.get? d with
    | none => rfl
    | some z => exact absurd (Heap.lt_size q) (Nat.not_lt.mpr hd)
  have bigB : ∀ d, s.heap.objs.size ≤ d → g.h₀.get? d = none := fun d hd => by
    cases q : g.h₀.get? d with
    | none => rfl
    | some z => have := big d hd; rw [I.base d z q] at this; cases this
  have bigH : ∀ d, s.heap.objs.size ≤ d → H d = none := fun d hd => by
    cases q : H d with
    | none => rfl
    | some z => obtain ⟨_, _, o2, q2, _⟩ := I.mine d z q; rw [big d hd] at q2; cases q2
  have bigR : ∀ d, s.heap.objs.size ≤ d → R d = none := fun d hd => by
    cases q : R d with
    | none => rfl
    | some z => obtain ⟨o2, q2, _⟩ := I.rest d z q; rw [big d hd] at q2; cases q2
  have eloc : env.locals = s.heap.objs.size := by rw [he]; rfl
  have esc : env.scope = fd.scope := by rw [he]; rfl
  have efr : env.frame = some env.locals := by rw [he]; rfl
  have ecl : env.cells = cellsFrom (s.heap.objs.size + 1) fd.scope.names [] := by rw [he]; rfl
  have ekind : ∀ x, env.kindOf x = fd.scope.names.lookup x := fun x => by unfold Env.kindOf; rw [esc]
  have bnd : noDup (binds.map (·.1)) = true := by rw [hbd.1]; exact k5
  have hbd' : BDen s'.heap pb binds := ⟨hbd.1, hbd.2.keeps kE.tup⟩
  have J : Inv ⟨g, n, true, fun x => fd.scope.names.lookup x == some .cell, fd.scope⟩ env (env.locals :: Fs) R pb H s'.heap := {
    hi := { (I.ext kE) with
      frs := fun L hL' => by
        rcases List.mem_cons.mp hL' with rfl | hL'
        · obtain ⟨o2, es, ep, q1, q2, _⟩ := hx.ns
          exact ⟨bigB _ hL, bigH _ hL, o2, es, ep, q1, q2⟩
        · exact (I.ext kE).frs L hL' }
    locR := bigR _ hL
    locB := bigB _ hL
    locH := bigH _ hL
    locs := ⟨_, hx.ns, fun x p e hk => by
      obtain ⟨v, q1, q2⟩ := hbd'.get e
      exact ⟨v, bindL_get (by rw [ekind]; exact hk) bnd q1, q2⟩⟩
    cels := fun x hk => by
      have hk' : fd.scope.names.lookup x = some .cell := by
        rcases hk with hk | hk
        · exact hk
        · have := k4 _ (lookup_mem' (show fd.scope.names.lookup x = some .free from hk)); simp at this
      obtain ⟨a, ha⟩ := Option.isSome_iff_exists.mp (cellsFrom_some' (n := s.heap.objs.size + 1) (acc := []) (.inl (lookup_mem' hk')))
      rw [← ecl] at ha
      refine ⟨a, _, ha, X.cell x a ha, fun p e => ?_⟩
      obtain ⟨v, q1, q2⟩ := hbd'.get e
      exact ⟨v, bindC_get (by rw [ekind, hk']; decide) bnd q1, q2⟩
    celH := fun x a e => ⟨bigH a (Nat.le_trans hL (Nat.le_of_lt (X.above x a (lookup_mem' e)))), _, X.cell x a e⟩
    own := fun x hk hw => by
      obtain ⟨a, ha⟩ := Option.isSome_iff_exists.mp (cellsFrom_some' (n := s.heap.objs.size + 1) (acc := []) (.inl (lookup_mem' (show fd.scope.names.lookup x = some .cell from hk))))
      rw [← ecl] at ha
      have hLa : s.heap.objs.size ≤ a := Nat.le_trans hL (Nat.le_of_lt (X.above x a (lookup_mem' ha)))
      refine ⟨a, ha, bigR a hLa, bigB a hLa, fun y d hy e q => ?_⟩
      subst q
      exact hy (name_of_addr X.apart (lookup_mem' e) (lookup_mem' ha)) }
  have eo : EnvOK ⟨g, n, true, fun x => fd.scope.names.lookup x == some .cell, fd.scope⟩ (A.deeper env) env := by
    refine ⟨esc, k1, by rw [he]; exact hgl, by rw [he]; exact hbl, fun _ => ⟨l, ?_, efr⟩⟩
    show A.frames.map _ = _
    rw [rf]; rfl
  have r' : Room n (env.locals :: Fs) (A.deeper env) := by
    refine ⟨rh, ?_, ?_, env :: l, ?_, ?_, ?_⟩
    · show A.depth + 1 + n < 900; omega
    · show A.units + 3 + 20 * n < 9000; omega
    · show A.frames.map _ = _
      rw [rf]; rfl
    · rw [List.map_cons, List.map_cons, rl, efr]
    · intro e he'
      rcases List.mem_cons.mp he' with rfl | he'
      · rw [esc, k1]; decide
      · exact rk e he'
  have hsame : Same s s' := by
    obtain ⟨h1, tk, e⟩ := hx.same
    rw [e]; exact Same.mk
  refine ⟨g.nolimit.keeps (fun b o e => kE _ _ (I.base b o e)), codeAny_func ?_⟩
  exact wpAny_mono (h env s' l rf efr r' eo J kE hsame (by show A.frames.map _ = _; rw [rf]; rfl)) (fun f s2 x => by cases f <;> exact x) fun _ _ x => x
theorem calls_fn {g : G} {n : Nat} {a : Addr} {o : Obj} {fd : FuncData} {body : List Stmt} {vs : List PV} {kw : List (Str × PV)} {pb : Vars} {H : HF} {Q : PV → HF → Prop} (ho : g.h₀.get? a = some o) (hd : o.data = .func fd) (hbody : fd.body = .stmts body) (hok : fnOK fd.scope pb = true)
    (hclo : fd.closure = []) (hgl : fd.globals = mainGlobals) (hbl : fd.builtins = builtinsNs) (hcd : g.h₀.CodeRec fd.code fd.qualname) (hb : Binds g fd vs kw pb)
    (h : EvSs (fnCx g n fd.scope) body pb H (fun fl _ H' => ∃ H'', H''.Le H' ∧ Q (retV fl) H'')) : Calls g (n + 1) (.ref a) vs kw H Q := by
  intro fv vvs kvs
  refine Op.mk fun A Fs R s E r I p => ?_
  obtain ⟨d1, d2, d3⟩ := p
  cases d1
  refine call_core ho hd hbody hok hclo hgl hbl hcd hb r I d2 d3 fun env s' l rf efr r' eo J kE hsame hfr => ?_
  refine wpAny_mono (EvM.run h r' eo J) (fun f s2 ⟨fl, m2, H2, ⟨H3, hle, hq⟩, d2, J2, e2, k2⟩ => ?_) fun _ _ x => x
  have fin : HI g Fs R H2 s2.heap := { J2.hi with frs := fun L hL => J2.hi.frs L (List.mem_cons_of_mem _ hL) }
  have fin' := fin.less hle
  cases fl with
  | ret v => obtain ⟨w, rfl, d⟩ := d2; exact ⟨v, H3, hq, d, fin', hsame.trans e2⟩
  | next => cases d2; exact ⟨.none, H3, hq, rfl, fin', hsame.trans e2⟩
  | brk => cases d2; exact ⟨.none, H3, hq, rfl, fin', hsame.trans e2⟩
  | cont => cases d2; exact ⟨.none, H3, hq, rfl, fin', hsame.trans e2⟩
end Mine
end
section
open PySem PySem.Calls PyProof.Rows
namespace Mine
section
variable {g : G} {n : Nat} {H : HF} {Q : PV → HF → Prop} {x y : Int}
theorem bin_add (h : Q (.int (x + y)) H) : BinO g n .Add (.int x) (.int y) H Q := fun va vb => Op.mk fun A Fs R s E r I p => by
  obtain ⟨⟨t, rfl⟩, ⟨u, rfl⟩⟩ := p; exact PyProof.Rows.add_int ⟨_, H, h, ⟨_, rfl⟩, I, Same.toks⟩
theorem bin_sub (h : Q (.int (x - y)) H) : BinO g n .Sub (.int x) (.int y) H Q := fun va vb => Op.mk fun A Fs R s E r I p => by
  obtain ⟨⟨t, rfl⟩, ⟨u, rfl⟩⟩ := p; exact PyProof.Rows.sub_int ⟨_, H, h, ⟨_, rfl⟩, I, Same.toks⟩
theorem bits_le {z : Int} (h : z.natAbs < 2 ^ 64) : Builtin.Int.intBits z ≤ 64 := by
  unfold Builtin.Int.intBits
  split
  · omega
  · rename_i hz
    have h0 : z.natAbs ≠ 0 := fun e => hz (by rw [Int.natAbs_eq_zero.mp e]; rfl)
    have := (Nat.log2_lt h0).mpr h
    omega
theorem bin_mul (hx : x.natAbs < 2 ^ 64) (h : Q (.int (x * y)) H) : BinO g n .Mult (.int x) (.int y) H Q := fun va vb => Op.mk fun A Fs R s E r I p => by
  obtain ⟨⟨t, rfl⟩, ⟨u, rfl⟩⟩ := p; exact PyProof.Rows.mul_int ⟨_, H, h, ⟨_, rfl⟩, I, Same.toks⟩ (IntMulOk.of_left (bits_le hx))
theorem bin_mod (hy : y ≠ 0) (h : Q (.int (x.fmod y)) H) : BinO g n .Mod (.int x) (.int y) H Q := fun va vb => Op.mk fun A Fs R s E r I p => by
  obtain ⟨⟨t, rfl⟩, ⟨u, rfl⟩⟩ := p; exact PyProof.Rows.mod_int' hy ⟨_, H, h, ⟨_, rfl⟩, I, Same.toks⟩
theorem bin_div (hy : y ≠ 0) (hb : y.natAbs < 1073741824) (h : Q (.int (x.fdiv y)) H) : BinO g n .FloorDiv (.int x) (.int y) H Q := fun va vb => Op.mk fun A Fs R s E r I p => by
  obtain ⟨⟨t, rfl⟩, ⟨u, rfl⟩⟩ := p; exact PyProof.Rows.floordiv_int hy ⟨_, H, h, ⟨_, rfl⟩, I, Same.toks⟩ (.inl (PyProof.noPylong_small hb))
theorem bin_shl (hy : 0 ≤ y) (hy2 : y ≤ 1000000) (hx : x.natAbs < 2 ^ 64) (h : Q (.int (x * 2 ^ y.toNat)) H) : BinO g n .LShift (.int x) (.int y) H Q := fun va vb => Op.mk fun A Fs R s E r I p => by
  obtain ⟨⟨t, rfl⟩, ⟨u, rfl⟩⟩ := p; exact PyProof.Rows.lshift_int_small hy hy2 hx ⟨_, H, h, ⟨_, rfl⟩, I, Same.toks⟩
theorem bin_shr (hy : 0 ≤ y) (h : Q (.int (x.fdiv (2 ^ y.toNat))) H) : BinO g n .RShift (.int x) (.int y) H Q := fun va vb => Op.mk fun A Fs R s E r I p => by
  obtain ⟨⟨t, rfl⟩, ⟨u, rfl⟩⟩ := p; exact PyProof.Rows.rshift_int hy ⟨_, H, h, ⟨_, rfl⟩, I, Same.toks⟩
theorem bin_and (h : Q (.int (Builtin.bitAnd x y)) H) : BinO g n .BitAnd (.int x) (.int y) H Q := fun va vb => Op.mk fun A Fs R s E r I p => by
  obtain ⟨⟨t, rfl⟩, ⟨u, rfl⟩⟩ := p; exact PyProof.Rows.and_int ⟨_, H, h, ⟨_, rfl⟩, I, Same.toks⟩
theorem bin_or (h : Q (.int (Builtin.bitOr x y)) H) : BinO g n .BitOr (.int x) (.int y) H Q := fun va vb => Op.mk fun A Fs R s E r I p => by
  obtain ⟨⟨t, rfl⟩, ⟨u, rfl⟩⟩ := p; exact PyProof.Rows.or_int ⟨_, H, h, ⟨_, rfl⟩, I, Same.toks⟩
theorem ibin_shl (hy : 0 ≤ y) (hy2 : y ≤ 1000000) (hx : x.natAbs < 2 ^ 64) (h : Q (.int (x * 2 ^ y.toNat)) H) : IBinO g n .LShift (.int x) (.int y) H Q := fun va vb => Op.mk fun A Fs R s E r I p => by
  obtain ⟨⟨t, rfl⟩, ⟨u, rfl⟩⟩ := p; exact PyProof.Rows.ilshift_int_small hy hy2 hx ⟨_, H, h, ⟨_, rfl⟩, I, Same.toks⟩
theorem ibin_or (h : Q (.int (Builtin.bitOr x y)) H) : IBinO g n .BitOr (.int x) (.int y) H Q := fun va vb => Op.mk fun A Fs R s E r I p => by
  obtain ⟨⟨t, rfl⟩, ⟨u, rfl⟩⟩ := p; exact PyProof.Rows.ior_int ⟨_, H, h, ⟨_, rfl⟩, I, Same.toks⟩
theorem un_neg (h : Q (.int (-x)) H) : UnO g n .USub (.int x) H Q := fun va => Op.mk fun A Fs R s E r I p => by
  obtain ⟨t, rfl⟩ := p; exact PyProof.Rows.neg_int ⟨_, H, h, ⟨_, rfl⟩, I, Same.toks⟩
theorem cmp_lt (h : Q (.bool (decide (x < y))) H) : CmpO g n .Lt (.int x) (.int y) H Q := fun va vb => Op.mk fun A Fs R s E r I p => by
  obtain ⟨⟨t, rfl⟩, ⟨u, rfl⟩⟩ := p; exact PyProof.Rows.lt_int ⟨_, H, h, rfl, I, Same.rfl'⟩
theorem cmp_le (h : Q (.bool (decide (x ≤ y))) H) : CmpO g n .LtE (.int x) (.int y) H Q := fun va vb => Op.mk fun A Fs R s E r I p => by
  obtain ⟨⟨t, rfl⟩, ⟨u, rfl⟩⟩ := p; exact PyProof.Rows.le_int ⟨_, H, h, rfl, I, Same.rfl'⟩
theorem cmp_gt (h : Q (.bool (decide (y < x))) H) : CmpO g n .Gt (.int x) (.int y) H Q := fun va vb => Op.mk fun A Fs R s E r I p => by
  obtain ⟨⟨t, rfl⟩, ⟨u, rfl⟩⟩ := p; exact PyProof.Rows.gt_int ⟨_, H, h, rfl, I, Same.rfl'⟩
theorem cmp_ge (h : Q (.bool (decide (y ≤ x))) H) : CmpO g n .GtE (.int x) (.int y) H Q := fun va vb => Op.mk fun A Fs R s E r I p => by
  obtain ⟨⟨t, rfl⟩, ⟨u, rfl⟩⟩ := p; exact PyProof.Rows.ge_int ⟨_, H, h, rfl, I, Same.rfl'⟩
theorem cmp_eq (h : Q (.bool (x == y)) H) : CmpO g n .Eq (.int x) (.int y) H Q := fun va vb => Op.mk fun A Fs R s E r I p => by
  obtain ⟨⟨t, rfl⟩, ⟨u, rfl⟩⟩ := p; exact PyProof.Rows.eq_int ⟨_, H, h, rfl, I, Same.rfl'⟩
theorem cmp_ne (h : Q (.bool (x != y)) H) : CmpO g n .NotEq (.int x) (.int y) H Q := fun va vb => Op.mk fun A Fs R s E r I p => by
  obtain ⟨⟨t, rfl⟩, ⟨u, rfl⟩⟩ := p; exact PyProof.Rows.ne_int ⟨_, H, h, rfl, I, Same.rfl'⟩
def isNoneB : PV → Bool
  | .none => true
  | _ => false
theorem none_of {h : Heap} : ∀ {a : PV} {va : Value}, Den h a va → (va == .none) = isNoneB a
  | .none, _, e => by cases e; rfl
  | .bool _, _, e => by cases e; rfl
  | .int _, _, ⟨_, e⟩ => by cases e; rfl
  | .bytes _, _, ⟨_, e⟩ => by cases e; rfl
  | .str _, _, ⟨_, e⟩ => by cases e; rfl
  | .ref _, _, e => by cases e; rfl
  | .type _, _, e => by cases e; rfl
  | .builtin _, _, e => by cases e; rfl
  | .tup _, _, ⟨_, _, e, _⟩ => by cases e; rfl
theorem cmp_is_none {a : PV} (h : Q (.bool (isNoneB a)) H) : CmpO g n .Is a .none H Q := fun va vb => Op.mk fun A Fs R s E r I p => by
  obtain ⟨d1, rfl⟩ := p
  exact is_none (by rw [none_of d1]; exact ⟨_, H, h, rfl, I, Same.rfl'⟩)
theorem cmp_isnot_none {a : PV} (h : Q (.bool (!isNoneB a)) H) : CmpO g n .IsNot a .none H Q := fun va vb => Op.mk fun A Fs R s E r I p => by
  obtain ⟨d1, rfl⟩ := p
  exact isNot_none (by rw [none_of d1]; exact ⟨_, H, h, rfl, I, Same.rfl'⟩)
theorem cmp_is_type {a b : String} (h : Q (.bool (a == b)) H) : CmpO g n .Is (.type a) (.type b) H Q := fun va vb => Op.mk fun A Fs R s E r I p => by
  obtain ⟨rfl, rfl⟩ := p
  refine wpAny_is_plain rfl ⟨_, H, h, ?_, I, Same.rfl'⟩
  show _ = Value.bool (a == b)
  congr 1
  by_cases e : a = b
  · subst e; simp
  · rw [beq_eq_false_iff_ne.mpr e, beq_eq_false_iff_ne.mpr (fun q => e (by injection q))]
theorem cmp_is_intref {a : Addr} (h : Q (.bool false) H) : CmpO g n .Is (.int x) (.ref a) H Q := fun va vb => Op.mk fun A Fs R s E r I p => by
  obtain ⟨⟨t, rfl⟩, rfl⟩ := p
  exact wpAny_is_plain rfl ⟨_, H, h, rfl, I, Same.rfl'⟩
theorem cmp_is_self {a : Addr} (h : Q (.bool true) H) : CmpO g n .Is (.ref a) (.ref a) H Q := fun va vb => Op.mk fun A Fs R s E r I p => by
  obtain ⟨rfl, rfl⟩ := p
  exact wpAny_is_ref_self ⟨_, H, h, rfl, I, Same.rfl'⟩
theorem tru_bool {b : Bool} {Q : Bool → HF → Prop} (h : Q b H) : TruO g n (.bool b) H Q := fun va => Op.mk fun A Fs R s E r I p => by
  cases p; exact wpAny_truthy_bool ⟨b, H, h, rfl, I, Same.rfl'⟩
theorem tru_int {Q : Bool → HF → Prop} (h : Q (x != 0) H) : TruO g n (.int x) H Q := fun va => Op.mk fun A Fs R s E r I p => by
  obtain ⟨t, rfl⟩ := p; exact PyProof.Rows.truthy_int ⟨_, H, h, rfl, I, Same.rfl'⟩
end
end Mine
end
section
open PySem PySem.Calls PyProof.Rows
namespace Mine
section
variable {g : G} {n : Nat} {H : HF} {Q : PV → HF → Prop}
theorem mineL {Fs : List Addr} {R : RF} {h : Heap} {a : Addr} {xs : List PV} (I : HI g Fs R H h) (e : H a = some (.list xs)) : ∃ vs k, IsL h a vs k ∧ DenL h xs vs.toList := by
  obtain ⟨_, _, o, h1, vs, k, rfl, h5⟩ := I.mine a _ e
  exact ⟨vs, k, h1, h5⟩
theorem denSize {h : Heap} {xs : List PV} {vs : Array Value} (d : DenL h xs vs.toList) : vs.size = xs.length := by
  have := d.length; simpa using this
theorem big_size {k : Nat} (h : k ≤ 100000) : (k : Int) < 2 ^ 63 := by omega
/-- a new list -/
theorem calls_len {a : Addr} {xs : List PV} (hH : H a = some (.list xs)) (hn : xs.length ≤ 100000) (h : Q (.int xs.length) H) : Calls g n (.builtin "len") [.ref a] [] H Q := fun fv vvs kvs => Op.mk fun A Fs R s E r I p => by
  obtain ⟨rfl, ⟨v, vs', rfl, rfl, rfl⟩, rfl⟩ := p
  obtain ⟨vs, k, h1, h2⟩ := mineL I hH
  have := denSize h2
  exact Calls.call_len_list h1.isList (by rw [this]; exact big_size hn) ⟨.int xs.length, H, h, ⟨_, by rw [this]⟩, I, Same.mk⟩
theorem tru_list {a : Addr} {xs : List PV} {Q : Bool → HF → Prop} (hH : H a = some (.list xs)) (hn : xs.length ≤ 100000) (h : Q (!xs.isEmpty) H) : TruO g n (.ref a) H Q := fun va => Op.mk fun A Fs R s E r I p => by
  cases p
  obtain ⟨vs, k, h1, h2⟩ := mineL I hH
  have e := denSize h2
  refine wpAny_truthy_list h1.isList (by rw [e]; exact big_size hn) ⟨_, H, h, ?_, I, Same.mk⟩
  show _ = _
  congr 1
  cases xs with
  | nil => simp at e; simp [e]
  | cons x r => simp only [Array.isEmpty, e]; simp
def notSlice : Expr → Bool
  | .Slice .. => false
  | _ => true
theorem subs_of {i : Expr} (h : notSlice i = true) (o k : Value) : subscripted i false o k = operate [o, k] (getItem o k) := by
  cases i <;> first | rfl | cases h
theorem sub_list {v i : Expr} {a : Addr} {xs : List PV} {k : Int} {p : PV} (hs : notSlice i = true) (hH : H a = some (.list xs)) (h0 : 0 ≤ k) (h1 : k < 100000) (hp : xs[k.toNat]? = some p) (h : Q p H) : SubO g n v i (.ref a) (.int k) H Q := fun vo vi => Op.mk fun A Fs R s E r I d => by
  obtain ⟨rfl, ⟨t, rfl⟩⟩ := d
  obtain ⟨vs, j, e1, e2⟩ := mineL I hH
  obtain ⟨w, e3, e4⟩ := e2.get hp
  exact tail_any e1.isList.typeIs slot_list_getitem.lookup (wpAny_getItem_list e1.isList h0 (by omega) (by simpa using e3) ⟨p, H, h, e4, I, Same.rfl'⟩) (subs_of hs _ _)
theorem sub_bytes {v i : Expr} {b : List UInt8} {k : Int} (hs : notSlice i = true) (h0 : 0 ≤ k) (h1 : k < b.length) (hb : b.length ≤ 100000) (h : Q (.int (b.getD k.toNat 0).toNat) H) : SubO g n v i (.bytes b) (.int k) H Q := fun vo vi => Op.mk fun A Fs R s E r I d => by
  obtain ⟨⟨t, rfl⟩, ⟨u, rfl⟩⟩ := d
  refine tail_any (PySem.W.typeIs_bytes s _ t) PySem.W.FB.slot_bytes_getitem.lookup (PySem.W.getItem_bytes (by omega) h0 h1 ⟨_, H, h, ⟨_, rfl⟩, I, Same.toks⟩) (subs_of hs _ _)
theorem upL {Fs : List Addr} {R : RF} {s : Shared} {a : Addr} {xs ys : List PV} {vs ws : Array Value} {k : Nat} {f : Array Value → Array Value} (I : HI g Fs R H s.heap) (hH : H a = some (.list xs)) (h1 : IsL s.heap a vs k) (hf : f vs = ws) (d : DenL s.heap ys ws.toList) :
    HI g Fs R (H.set a (.list ys)) (s.heap.update a (Obj.mapSeq f)) := by
  refine I.upd hH (Heap.SameBut.update ..) (h1.update f) ⟨_, _, rfl, ?_⟩
  rw [hf]; exact d
theorem set_list {a : Addr} {xs : List PV} {k : Int} {p : PV} {Q : HF → Prop} (hH : H a = some (.list xs)) (h0 : 0 ≤ k) (h1 : k < xs.length) (hn : xs.length ≤ 100000) (h : Q (H.set a (.list (xs.set k.toNat p)))) : SetO g n (.ref a) (.int k) p H Q := fun vo vi vv => Op.mk fun A Fs R s E r I d => by
  obtain ⟨rfl, ⟨t, rfl⟩, d⟩ := d
  obtain ⟨vs, j, e1, e2⟩ := mineL I hH
  have e := denSize e2
  refine PySem.W.ki_setAt e1 h0 (by omega) (by rw [e]; exact h1) ⟨(), _, h, rfl, upL I hH e1 rfl ?_, Same.heap⟩
  rw [Array.toList_setIfInBounds]
  exact e2.set _ d
theorem calls_append {a : Addr} {xs : List PV} {p : PV} (hH : H a = some (.list xs)) (hn : xs.length < 100000) (h : Q .none (H.set a (.list (xs ++ [p])))) : Calls g n (.builtin "list.append") [.ref a, p] [] H Q := fun fv vvs kvs => Op.mk fun A Fs R s E r I d => by
  obtain ⟨rfl, ⟨_, _, rfl, rfl, ⟨v, _, rfl, d, rfl⟩⟩, rfl⟩ := d
  obtain ⟨vs, j, e1, e2⟩ := mineL I hH
  have e := denSize e2
  refine append_raw e1 rfl rfl (by rw [e]; exact sizeL _ (by omega)) ⟨.none, _, h, rfl, upL I hH e1 rfl ?_, Same.heap⟩
  simpa using e2.append (DenL.one d)
theorem calls_pop {a : Addr} {xs : List PV} {p : PV} (hH : H a = some (.list (xs ++ [p]))) (hn : xs.length < 100000) (h : Q p (H.set a (.list xs))) : Calls g n (.builtin "list.pop") [.ref a] [] H Q := fun fv vvs kvs => Op.mk fun A Fs R s E r I d => by
  obtain ⟨rfl, ⟨_, _, rfl, rfl, rfl⟩, rfl⟩ := d
  obtain ⟨vs, j, e1, e2⟩ := mineL I hH
  have e := denSize e2
  rw [List.length_append, List.length_singleton] at e
  obtain ⟨v, e3, e4⟩ := e2.get (i := xs.length) (p := p) (by simp)
  have hs : vs.size ≤ sizeLine := by rw [e]; exact sizeL _ (by omega)
  refine call_meets F.slot_list_pop ⟨_, e1, rfl⟩ F.entry_list_pop (F.args_list_pop_1 _) (MeetsSeq.list_pop_last a vs j v (by rw [e]; simpa using e3) hs) ⟨e1, ?_⟩
  have q : (vs.eraseIdxIfInBounds (vs.size - 1)).toList = vs.toList.take xs.length := by
    unfold Array.eraseIdxIfInBounds
    rw [dif_pos (by omega), Array.toList_eraseIdx, List.eraseIdx_eq_take_drop_succ, e, List.drop_of_length_le (by simp; omega)]
    simp
  refine ⟨p, _, h, e4.keeps (I.tupKeep hH (Heap.SameBut.update ..)), upL I hH e1 rfl ?_, Same.heap⟩
  rw [q]
  have := e2.take xs.length
  rwa [List.take_left] at this
theorem calls_insert0 {a : Addr} {xs : List PV} {p : PV} (hH : H a = some (.list xs)) (hn : xs.length < 100000) (h : Q .none (H.set a (.list (p :: xs)))) : Calls g n (.builtin "list.insert") [.ref a, .int 0, p] [] H Q := fun fv vvs kvs => Op.mk fun A Fs R s E r I d => by
  obtain ⟨rfl, ⟨_, _, rfl, rfl, ⟨_, _, rfl, ⟨t, rfl⟩, ⟨v, _, rfl, d, rfl⟩⟩⟩, rfl⟩ := d
  obtain ⟨vs, j, e1, e2⟩ := mineL I hH
  have e := denSize e2
  have hs : vs.size ≤ sizeLine := by rw [e]; exact sizeL _ (by omega)
  refine call_meets F.slot_list_insert ⟨_, e1, rfl⟩ F.entry_list_insert (F.args_list_insert_3 _ _ _) (AutoListH.list_insert_list_int_val_1 a vs j 0 t v (by decide) hs) ⟨e1, ?_⟩
  refine ⟨.none, _, h, rfl, upL (ws := (#[v] ++ vs)) I hH e1 ?_ ?_, Same.mk⟩
  · simp
  · exact ⟨v, vs.toList, by simp, d, e2⟩
theorem bin_addL {a b : Addr} {xs ys : List PV} (hH : H a = some (.list xs)) (hH' : H b = some (.list ys)) (hn : xs.length + ys.length ≤ 100000) (h : ∀ c, H c = none → Q (.ref c) (H.set c (.list (xs ++ ys)))) : BinO g n .Add (.ref a) (.ref b) H Q := fun va vb => Op.mk fun A Fs R s E r I d => by
  obtain ⟨rfl, rfl⟩ := d
  obtain ⟨vs, j, e1, e2⟩ := mineL I hH
  obtain ⟨ws, k, f1, f2⟩ := mineL I hH'
  have e := denSize e2
  have f := denSize f2
  refine P.add_list e1 f1 ?_ (by rw [e, f]; exact sizeL _ hn)
  refine ⟨.ref s.heap.objs.size, _, h _ I.sizeH, rfl, I.alloc (x := .list (xs ++ ys)) ⟨_, _, rfl, ?_⟩ rfl, Same.heap⟩
  simpa using e2.append f2
theorem flat_rep (k : Nat) (v : Array Value) : (List.foldl (fun x1 x2 => x1 ++ x2) #[] (List.replicate k v) : Array Value).toList = (List.replicate k v.toList).flatten := by
  have key : ∀ (l : List (Array Value)) (acc : Array Value), (List.foldl (fun x1 x2 => x1 ++ x2) acc l).toList = acc.toList ++ (l.map (·.toList)).flatten := by
    intro l
    induction l with
    | nil => intro acc; simp
    | cons x r ih => intro acc; rw [List.foldl_cons, ih]; simp
  rw [key]; simp
theorem DenL.rep {h : Heap} {xs : List PV} {vs : List Value} (d : DenL h xs vs) : ∀ k : Nat, DenL h (List.replicate k xs).flatten (List.replicate k vs).flatten
  | 0 => rfl
  | k + 1 => by rw [List.replicate_succ, List.replicate_succ, List.flatten_cons, List.flatten_cons]; exact d.append (DenL.rep d k)
theorem bin_mulL {a : Addr} {xs : List PV} {x : Int} (hH : H a = some (.list xs)) (h0 : 0 ≤ x) (h1 : x < 1000) (hn : xs.length ≤ 10) (hne : xs ≠ []) (h : ∀ c, H c = none → Q (.ref c) (H.set c (.list (List.replicate x.toNat xs).flatten))) : BinO g n .Mult (.ref a) (.int x) H Q := fun va vb => Op.mk fun A Fs R s E r I d => by
  obtain ⟨rfl, ⟨u, rfl⟩⟩ := d
  obtain ⟨vs, j, e1, e2⟩ := mineL I hH
  have e := denSize e2
  have hem : vs.isEmpty = false := by
    cases xs with
    | nil => exact absurd rfl hne
    | cons y r => simp [Array.isEmpty, e]
  refine wpAny_binaryOp_repeat_ref (T := "list") (U := "int") (by decide) ⟨_, e1, rfl⟩ (fun s' => typeIs_int s' x u) noFill_list_mul F.fills_int_mul F.slot_int_rmul repeat_list F.slot_int_index.lookup ?_
  refine call_meets F.slot_int_rmul (typeIs_int s x u) F.entry_int_rmul (F.args_int_rmul_2 _ _) (int___rmul___int_list x u a vs j) ⟨e1, rfl, ⟨_, e1, rfl⟩, ?_⟩
  have hb : vs.size * x.toNat ≤ 10 * 1000 := Nat.mul_le_mul (by omega) (by omega)
  refine call_meets F.slot_list_mul ⟨_, e1, rfl⟩ F.entry_list_mul (F.args_list_mul_2 _ _) (AutoListH.list___mul___list_int_3 a vs j x u (by simp [Builtin.List.listFitsIndex]; omega) (by omega) (by simp [Builtin.List.listTooLong, sizeLine]; omega)) ⟨e1, ?_⟩
  refine ⟨.ref s.heap.objs.size, _, h _ I.sizeH, rfl, I.alloc (x := .list (List.replicate x.toNat xs).flatten) ⟨_, _, rfl, ?_⟩ rfl, Same.heap⟩
  rw [hem]
  simp only [Bool.false_eq_true, if_false]
  rw [flat_rep]
  exact e2.rep _
def optI : Option Nat → PV
  | none => .none
  | some k => .int k
def optZ : Option Nat → Option Int
  | none => none
  | some k => some (k : Int)
theorem den_part {h : Heap} {o : Option Nat} {v : Value} (d : Den h (optI o) v) : IsPart v (optZ o) := by
  cases o with
  | none => cases d; exact .none
  | some k => obtain ⟨t, rfl⟩ := d; exact .int _ _
theorem subs_slice {l u : Option Expr} {p : Pos} (o i : Value) : subscripted (.Slice l u none p) false o i = operate [i, o] (getItem o i) := rfl
theorem slice_gen {v : Expr} {l u : Option Expr} {p2 : Pos} {a : Addr} {vs : Array Value} {xs : List PV} {lo hi : Option Nat} {A : Around} {Fs : List Addr} {R : RF} {s : Shared} {E : Value → Shared → Prop} {va vb vc : Value} {i : Addr} (I : HI g Fs R H s.heap) (hl : s.heap.IsList a vs) (e2 : DenL s.heap xs vs.toList) (hn : xs.length ≤ 100000)
    (d1 : Den s.heap (optI lo) va) (d2 : Den s.heap (optI hi) vb) (d3 : Den s.heap .none vc) (hi' : s.heap.get? i = some { cls := .type "slice", data := .fields #[va, vb, vc] })
    (h : ∀ c, H c = none → Q (.ref c) (H.set c (.list ((xs.drop (lo.getD 0)).take (min (hi.getD xs.length) xs.length - lo.getD 0))))) :
    wpAny (model g.prog g.w) A (subscriptTail v (.Slice l u none p2) (.ref a) (.ref i)) (fun a s' => ∃ b H', Q b H' ∧ Den s'.heap b a ∧ HI g Fs R H' s'.heap ∧ Same s s') E s := by
  cases d3
  have e := denSize e2
  refine tail_any hl.typeIs slot_list_getitem.lookup (wpAny_getItem_list_slice hl ⟨_, hi', rfl, rfl⟩ (den_part d1) (den_part d2) .none (by simp) ?_ (by rw [e]; exact sizeL _ hn)) (subs_slice _ _)
  refine ⟨.ref s.heap.objs.size, _, h _ I.sizeH, rfl, I.alloc (x := .list _) ⟨_, _, rfl, ?_⟩ rfl, Same.heap⟩
  rw [slicePick_plain, e]
  have c1 : (Option.elim (optZ lo) 0 (clipAt xs.length)) = min (lo.getD 0) xs.length := by
    cases lo with
    | none => simp [optZ]
    | some k => simp only [optZ, Option.elim, clipAt_nat, Option.getD_some]
  have c2 : (Option.elim (optZ hi) xs.length (clipAt xs.length)) = min (hi.getD xs.length) xs.length := by
    cases hi with
    | none => simp [optZ]
    | some k => simp only [optZ, Option.elim, clipAt_nat, Option.getD_some]
  rw [c1, c2]
  rcases Nat.le_total (lo.getD 0) xs.length with q | q
  · rw [Nat.min_eq_left q]; exact (e2.drop _).take _
  · have z1 : vs.toList.drop (min (lo.getD 0) xs.length) = [] := List.drop_of_length_le (by simp; omega)
    have z2 : xs.drop (lo.getD 0) = [] := List.drop_of_length_le q
    rw [z1, z2]; simp; exact rfl
theorem sli_list {v : Expr} {l u : Option Expr} {p2 : Pos} {a : Addr} {xs : List PV} {lo hi : Option Nat} (hH : H a = some (.list xs)) (hn : xs.length ≤ 100000)
    (h : ∀ c, H c = none → Q (.ref c) (H.set c (.list ((xs.drop (lo.getD 0)).take (min (hi.getD xs.length) xs.length - lo.getD 0))))) : SliO g n v (.Slice l u none p2) (.ref a) (optI lo) (optI hi) .none H Q := fun vo vl vu vs i => Op.mk fun A Fs R s E r I d => by
  obtain ⟨rfl, d1, d2, d3, hi'⟩ := d
  obtain ⟨vs, j, e1, e2⟩ := mineL I hH
  exact slice_gen I e1.isList e2 hn d1 d2 d3 hi' h
theorem calls_range1 {x : Int} (h : ∀ c, H c = none → Q (.ref c) (H.set c (.range 0 x))) : Calls g n (.type "range") [.int x] [] H Q := fun fv vvs kvs => Op.mk fun A Fs R s E r I d => by
  obtain ⟨rfl, ⟨_, _, rfl, ⟨t, rfl⟩, rfl⟩, rfl⟩ := d
  exact call_range_1 ⟨.ref s.heap.objs.size, _, h _ I.sizeH, rfl, I.alloc (x := .range 0 x) ⟨_, _, _, rfl⟩ rfl, Same.mk⟩
theorem calls_min2 {x y : Int} (h : Q (.int (min x y)) H) : Calls g n (.builtin "min") [.int x, .int y] [] H Q := fun fv vvs kvs => Op.mk fun A Fs R s E r I d => by
  obtain ⟨rfl, ⟨_, _, rfl, ⟨t, rfl⟩, ⟨_, _, rfl, ⟨u, rfl⟩, rfl⟩⟩, rfl⟩ := d
  refine min_two_ints r.1 fun h' tk k => ⟨.int (min x y), H, h, ?_, I.ext k, Same.mk⟩
  by_cases q : y < x
  · rw [if_pos q]; exact ⟨u, by congr 1; omega⟩
  · rw [if_neg q]; exact ⟨t, by congr 1; omega⟩
theorem ints_items {h : Heap} : ∀ {ns : List Int} {vs : List Value}, DenL h (ns.map .int) vs → ∃ l : List (Int × Tok), vs = l.map (fun p => Value.int p.1 p.2) ∧ l.map (·.1) = ns
  | [], vs, e => ⟨[], by rw [show vs = [] from e]; rfl, rfl⟩
  | i :: ns, vs, ⟨v, vs', e1, ⟨t, e2⟩, e3⟩ => by
    obtain ⟨l, f1, f2⟩ := ints_items e3
    exact ⟨(i, t) :: l, by rw [e1, e2, f1]; rfl, by simp [f2]⟩
theorem calls_sum {a : Addr} {ns : List Int} (hH : H a = some (.list (ns.map .int))) (h : Q (.int ns.sum) H) : Calls g n (.builtin "sum") [.ref a] [] H Q := fun fv vvs kvs => Op.mk fun A Fs R s E r I d => by
  obtain ⟨rfl, ⟨_, _, rfl, rfl, rfl⟩, rfl⟩ := d
  obtain ⟨vs, j, e1, e2⟩ := mineL I hH
  obtain ⟨l, f1, f2⟩ := ints_items e2
  have hv : vs = intItems l.toArray := by
    apply Array.toList_inj.mp
    rw [f1]; simp [intItems]
  refine sum_intListG r.1 (xs := l.toArray) (by rw [← hv]; exact e1.isList) fun h' tk t' k => ⟨.int ns.sum, H, h, ⟨t', ?_⟩, I.ext k, Same.mk⟩
  congr 1
  rw [preSum_eq, List.take_of_length_le (by simp)]
  simp [f2]
end
end Mine
end
section
open PySem PySem.Calls PyProof.Rows
namespace Mine
open PySem.W (Dat kqdP kqdPs kqdOk kqd_lay kqd_eqv)
mutual
inductive RD (H : HF) : PV → Dat → Prop
  | none : RD H .none .none
  | int (i : Int) : RD H (.int i) (.int i)
  | tup {xs ds} : RDs H xs ds → RD H (.tup xs) (.tuple ds)
  | list {a xs ds} : H a = some (.list xs) → RDs H xs ds → RD H (.ref a) (.list ds)
inductive RDs (H : HF) : List PV → List Dat → Prop
  | nil : RDs H [] []
  | cons {x d xs ds} : RD H x d → RDs H xs ds → RDs H (x :: xs) (d :: ds)
end
section
variable {g : G} {Fs : List Addr} {R : RF} {H : HF} {h : Heap}
theorem RD.reads (I : HI g Fs R H h) {p : PV} {d : Dat} {v : Value} (n : Nat) (r : RD H p d) (e : Den h p v) (hk : kqdOk n d = true) : ∃ as, Reads h v (kqdP d) as := by
  refine RD.rec (H := H) (motive_1 := fun p d _ => ∀ (v : Value) (n : Nat), Den h p v → kqdOk n d = true → ∃ as, Reads h v (kqdP d) as)
    (motive_2 := fun ps ds _ => ∀ (vs : List Value) (n : Nat), DenL h ps vs → (∀ d ∈ ds, kqdOk n d = true) → ∃ as, ReadsAll h vs (kqdPs ds) as) ?_ ?_ ?_ ?_ ?_ ?_ r v n e hk
  · intro v n e _; cases e; exact ⟨_, Reads.none⟩
  · intro i v n e _; obtain ⟨t, e⟩ := e; cases e; exact ⟨_, Reads.int i t⟩
  · intro xs ds _ ih v n e hk
    obtain ⟨a, vs, e, e1, e2⟩ := e
    cases n with
    | zero => simp [kqdOk] at hk
    | succ n =>
      obtain ⟨as, q⟩ := ih vs.toList n e2 (by simpa [kqdOk] using hk)
      rw [kqdP, e]
      exact ⟨as, reads_tuple_at e1 rfl rfl q⟩
  · intro a xs ds hm _ ih v n e hk
    cases e
    obtain ⟨vs, k, e1, e2⟩ := mineL I hm
    cases n with
    | zero => simp [kqdOk] at hk
    | succ n =>
      obtain ⟨as, q⟩ := ih vs.toList n e2 (by simpa [kqdOk] using hk)
      rw [kqdP]
      exact ⟨_, reads_list_at e1 rfl rfl q⟩
  · intro vs n e _; rw [show vs = [] from e]; exact ⟨_, ReadsAll.nil⟩
  · intro x d xs ds _ _ ih1 ih2 vs n e hk
    obtain ⟨v, vs', e, e1, e2⟩ := e
    obtain ⟨as, q⟩ := ih1 v n e1 (hk _ (.head _))
    obtain ⟨bs, p⟩ := ih2 vs' n e2 fun d hm => hk d (.tail _ hm)
    rw [kqdPs, e]
    exact ⟨_, ReadsAll.cons q p⟩
end
section
variable {g : G} {n : Nat} {H : HF} {Q : PV → HF → Prop}
theorem room64 {Fs : List Addr} {A : Around} (r : Room n Fs A) : A.units + 64 < cLine := by
  have := r.2.2.1; show A.units + 64 < 9900; omega
theorem data_eqv {d e : Dat} (hd : kqdOk 9 d = true) (he : kqdOk 9 e = true) {b : Bool} (hb : b = true ↔ d = e) : PyData.eqv (kqdP d) (kqdP e) = b := by
  have q := kqd_eqv 9 d e 9 hd he
  cases b with
  | true => exact q.mpr (hb.mp rfl)
  | false => exact Bool.eq_false_iff.mpr fun x => Bool.noConfusion (hb.mpr (q.mp x))
theorem data_shaped {d : Dat} (h : kqdOk 9 d = true) : SeqAt.shaped (kqdP d) = true := by
  have l := kqd_lay 9 d h
  unfold SeqAt.shaped; rw [l.1, Bool.true_and]; exact decide_eq_true (Nat.le_trans l.2 (by decide))
theorem cmp_eq_data {p q : PV} {d e : Dat} (b : Bool) (h1 : RD H p d) (h2 : RD H q e) (hd : kqdOk 9 d = true) (he : kqdOk 9 e = true) (hb : b = true ↔ d = e) (h : Q (.bool b) H) : CmpO g n .Eq p q H Q := fun va vb => Op.mk fun A Fs R s E r I dd => by
  obtain ⟨as, r1⟩ := RD.reads I 9 h1 dd.1 hd
  obtain ⟨bs, r2⟩ := RD.reads I 9 h2 dd.2 he
  exact eq_dataH r1 r2 (data_shaped hd) (data_shaped he) (room64 r) (by rw [data_eqv hd he hb]; exact ⟨_, H, h, rfl, I, Same.rfl'⟩)
theorem cmp_ne_data {p q : PV} {d e : Dat} (b : Bool) (h1 : RD H p d) (h2 : RD H q e) (hd : kqdOk 9 d = true) (he : kqdOk 9 e = true) (hb : b = true ↔ d = e) (h : Q (.bool (!b)) H) : CmpO g n .NotEq p q H Q := fun va vb => Op.mk fun A Fs R s E r I dd => by
  obtain ⟨as, r1⟩ := RD.reads I 9 h1 dd.1 hd
  obtain ⟨bs, r2⟩ := RD.reads I 9 h2 dd.2 he
  exact ne_dataH r1 r2 (data_shaped hd) (data_shaped he) (room64 r) (by rw [data_eqv hd he hb]; exact ⟨_, H, h, rfl, I, Same.rfl'⟩)
def eqI (x : Int) : Value → Bool
  | .int i _ => i == x
  | _ => false
theorem any_ints {h : Heap} {x : Int} : ∀ {ns : List Int} {vs : List Value}, DenL h (ns.map .int) vs → vs.any (eqI x) = ns.contains x
  | [], vs, e => by rw [show vs = [] from e]; rfl
  | i :: ns, vs, ⟨v, vs', e1, ⟨t, e2⟩, e3⟩ => by
    rw [e1, e2, List.any_cons, any_ints e3, List.contains_cons]
    congr 1
    show (i == x) = (x == i)
    by_cases q : i = x
    · subst q; rfl
    · rw [beq_eq_false_iff_ne.mpr q, beq_eq_false_iff_ne.mpr (Ne.symm q)]
theorem eqI_at {h : Heap} {x : Int} {t : Tok} {ns : List Int} {vs : Array Value} {A : Around} {s : Shared} (d : DenL h (ns.map .int) vs.toList) : ∀ y, y ∈ vs → SeqAt.EqAt A s y (.int x t) (eqI x y) := by
  intro y hy
  obtain ⟨i, hi, e⟩ := Array.mem_iff_getElem.mp hy
  obtain ⟨p, e1, e2⟩ := d.get' (i := i) (v := y) (by simp [hi, e])
  rw [List.getElem?_map] at e1
  cases z : ns[i]? with
  | none => rw [z] at e1; cases e1
  | some k =>
    rw [z] at e1; cases e1
    obtain ⟨u, rfl⟩ := e2
    intro prog w E Q h
    exact wpAny_eqBool_int h
theorem cmp_notin {a : Addr} {x : Int} {ns : List Int} (hH : H a = some (.list (ns.map .int))) (h : Q (.bool (!ns.contains x)) H) : CmpO g n .NotIn (.int x) (.ref a) H Q := fun va vb => Op.mk fun A Fs R s E r I d => by
  obtain ⟨⟨t, rfl⟩, rfl⟩ := d
  obtain ⟨vs, j, e1, e2⟩ := mineL I hH
  refine SeqAt.notIn_listAt (eqI x) e1.isList (eqI_at e2) ?_
  rw [show vs.any (eqI x) = ns.contains x by rw [← any_ints e2]; simp]
  exact ⟨_, H, h, rfl, I, Same.rfl'⟩
/-- the order of tuples of ints of one length -/
def lexLt : List Int → List Int → Bool
  | x :: xs, y :: ys => if x = y then lexLt xs ys else decide (x < y)
  | _, _ => false
set_option maxHeartbeats 1000000 in
theorem tup_lt_raw (l b : Addr) (xs ys : List Int) (vs ws : Array Value) (k k2 : Nat) (hl : xs.length = ys.length) :
    Meets (Builtin.«tuple.__lt__» ⟨[.ref l, .ref b], []⟩)
      (fun A R s => s.heap.get? l = some { cls := .type "tuple", data := .seq vs k } ∧ s.heap.get? b = some { cls := .type "tuple", data := .seq ws k2 } ∧ DenL s.heap (xs.map .int) vs.toList ∧ DenL s.heap (ys.map .int) ws.toList ∧
        R (.ok (.ret (.bool (lexLt xs ys)))) s) :=
  .of_wp fun prog w A R s h => by
    obtain ⟨hp, g, d, tk, os⟩ := s; obtain ⟨hl1, hb, d1, d2, h⟩ := h
    have f2 := AutoSeq1.sub_tuple_tuple
    have s1 : vs.size = xs.length := by have := d1.length; simpa using this
    have s2 : ws.size = ys.length := by have := d2.length; simpa using this
    wp_walk using wpAny_loadPart' hl1, wpAny_loadPart' hb, wpAny_forIn_list _ (fun rest b s' => b.1 = none ∧ s' = ⟨hp, g, d, tk, os⟩ ∧ ∃ xs' ys' vs' ws', rest = List.zip vs' ws' ∧ DenL hp (xs'.map PV.int) vs' ∧ DenL hp (ys'.map PV.int) ws' ∧ xs'.length = ys'.length ∧
      R (.ok (.ret (.bool (lexLt xs' ys')))) ⟨hp, g, d, tk, os⟩) _
    case turn =>
      rintro ⟨y, x⟩ rest b s' ⟨hb', rfl, xs', ys', vs', ws', hz, e1, e2, hlen, hR⟩
      cases xs' with
      | nil =>
        rw [show vs' = [] from e1] at hz
        cases hz
      | cons i xs' =>
        cases ys' with
        | nil => cases hlen
        | cons j ys' =>
          obtain ⟨v, vs'', rfl, ⟨t, rfl⟩, e1⟩ := e1
          obtain ⟨u, ws'', rfl, ⟨t', rfl⟩, e2⟩ := e2
          cases hz
          unfold lexLt at hR
          refine wpAny_bind (wpAny_eqBool_int ?_)
          by_cases q : i = j
          · rw [if_pos q] at hR
            subst q
            rw [beq_self_eq_true]
            wp_walk
            exact ⟨rfl, rfl, xs', ys', vs'', ws'', rfl, e1, e2, by simpa using hlen, hR⟩
          · rw [if_neg q] at hR
            rw [beq_eq_false_iff_ne.mpr q]
            simp only [Bool.not_false, if_true]
            refine wpAny_bind (wpAny_rule (wpAny_bind (show wpAny _ _ (compareOp .Lt (.int i t) (.int j t')) _ _ _ from PyProof.Rows.lt_int (wpAny_bind (wpAny_pure (wpAny_pure ?_))))))
            exact wpAny_pure ⟨_, rfl, hR⟩
    case fin =>
      rintro ⟨b1, b2⟩ s' ⟨hb', rfl, xs', ys', vs', ws', hz, e1, e2, hlen, hR⟩
      simp only at hb'
      subst hb'
      have hn : xs' = [] := by
        cases xs' with
        | nil => rfl
        | cons i xs' =>
          cases ys' with
          | nil => cases hlen
          | cons j ys' =>
            obtain ⟨v, vs'', rfl, _, _⟩ := e1
            obtain ⟨u, ws'', rfl, _, _⟩ := e2
            cases hz
      subst hn
      wp_walk
      refine ⟨_, rfl, ?_⟩
      have : lexLt [] ys' = false := by unfold lexLt; rfl
      rw [this] at hR
      simpa [Builtin.Tuple.tupleCompareSizes, s1, s2, hl] using hR
    case h =>
      exact ⟨rfl, rfl, xs, ys, _, _, rfl, d1, d2, hl, h⟩
theorem cmp_lt_tup {xs ys : List Int} (hl : xs.length = ys.length) (h : Q (.bool (lexLt xs ys)) H) : CmpO g n .Lt (.tup (xs.map .int)) (.tup (ys.map .int)) H Q := fun va vb => Op.mk fun A Fs R s E r I d => by
  obtain ⟨⟨a, vs, rfl, e1, e2⟩, ⟨b, ws, rfl, f1, f2⟩⟩ := d
  refine PySem.W.cmp_ofLt (richCompare_meets_room (op := .Lt) ⟨_, e1, rfl⟩ ⟨_, f1, rfl⟩ F.slot_tuple_lt F.entry_tuple_lt (F.args_tuple_lt_2 _ _) (tup_lt_raw a b xs ys vs ws 0 0 hl) ⟨e1, f1, e2, f2, ?_⟩ (by have := room64 r; omega))
  exact (show Value.bool (lexLt xs ys) ≠ .notImplemented ∧ ∃ b H', Q b H' ∧ Den s.heap b (Value.bool (lexLt xs ys)) ∧ HI g Fs R H' s.heap ∧ Same s s from ⟨fun x => (by cases x), _, H, h, rfl, I, Same.rfl'⟩)
end
end Mine
end
section
open PySem PySem.Calls PyProof.Rows
namespace Mine
section
variable {g : G} {n : Nat} {H : HF} {Q : PV → HF → Prop}
def byteL (ns : List Int) : List UInt8 := ns.map fun n => n.toNat.toUInt8
theorem ints_are {h : Heap} : ∀ {ns : List Int} {vs : List Value}, DenL h (ns.map .int) vs → IntsAre vs ns
  | [], vs, e => by rw [show vs = [] from e]; exact .nil
  | i :: ns, vs, ⟨v, vs', e1, ⟨t, e2⟩, e3⟩ => by rw [e1, e2]; exact .cons i t (ints_are e3)
theorem calls_bytes {a : Addr} {ns : List Int} (hH : H a = some (.list (ns.map .int))) (hr : ∀ n ∈ ns, 0 ≤ n ∧ n < 256) (hz : ns.length ≤ 100000) (h : Q (.bytes (byteL ns)) H) : Calls g n (.type "bytes") [.ref a] [] H Q := fun fv vvs kvs => Op.mk fun A Fs R s E r I d => by
  obtain ⟨rfl, ⟨_, _, rfl, rfl, rfl⟩, rfl⟩ := d
  obtain ⟨vs, j, e1, e2⟩ := mineL I hH
  have e := denSize e2
  rw [List.length_map] at e
  refine call_bytes_ints (vs := vs.toList) (by simpa using e1.isList) (ints_are e2) hr (by simp only [Array.length_toList]; rw [e]; exact sizeL _ hz) r.1 fun h' t k kk => ⟨_, H, h, ⟨t, rfl⟩, I.ext kk, Same.mk⟩
theorem bin_addB {b c : List UInt8} (hn : b.length + c.length ≤ 100000) (h : Q (.bytes (b ++ c)) H) : BinO g n .Add (.bytes b) (.bytes c) H Q := fun va vb => Op.mk fun A Fs R s E r I d => by
  obtain ⟨⟨t, rfl⟩, ⟨u, rfl⟩⟩ := d
  exact PySem.W.KBy.add_bytes (by simp; omega) fun t' k => ⟨_, H, h, ⟨t', by simp⟩, I, Same.mk⟩
theorem isi_bytes_no {b : Array UInt8} {t : Tok} {T : String} (hne : (Value.type "bytes" == Value.type T) = false) (hty : typeOf (.type T) = pure (.type "type")) (hsub : isSubtype (.type "bytes") (.type T) = pure false) :
    Answers (fun s => s.TypeIs (.bytes b t) "bytes") (.bytes b t) (.type T) false :=
  fun _ _ _ _ _ _ s hs => by
    obtain ⟨h, g, d, t, os⟩ := s
    exact isinstance_nested_false_bytes hne hty hsub (hs.2 _)
theorem sub_bytes_str : isSubtype (.type "bytes") (.type "str") = pure false := by rw [isSubtype_type]; kernel_rfl
theorem sub_bytes_bytes : isSubtype (.type "bytes") (.type "bytes") = pure true := by rw [isSubtype_type]; kernel_rfl
theorem sub_bytes_bytearray : isSubtype (.type "bytes") (.type "bytearray") = pure false := by rw [isSubtype_type]; kernel_rfl
theorem calls_isi_str {b : List UInt8} (h : Q (.bool false) H) : Calls g n (.builtin "isinstance") [.bytes b, .type "str"] [] H Q := fun fv vvs kvs => Op.mk fun A Fs R s E r I d => by
  obtain ⟨rfl, ⟨_, _, rfl, ⟨t, rfl⟩, ⟨_, _, rfl, rfl, rfl⟩⟩, rfl⟩ := d
  have g1 : Meets (Builtin.«isinstance» ⟨[.bytes b.toArray t, .type "str"], []⟩) (fun _ R s => R (.ok (.ret (.bool false))) { s with toks := s.toks + 1 }) := fun _ _ _ _ s hs => by
    obtain ⟨h, g, d, t, os⟩ := s
    exact isinstance_outer (isinstance_nested_false_bytes (by decide) F.isi_meta_str sub_bytes_str hs)
  exact call_isinstance g1 ⟨_, H, h, rfl, I, Same.toks⟩
theorem calls_isi_bytes {b : List UInt8} (h : Q (.bool true) H) : Calls g n (.builtin "isinstance") [.bytes b, .tup [.type "bytes", .type "bytearray"]] [] H Q := fun fv vvs kvs => Op.mk fun A Fs R s E r I d => by
  obtain ⟨rfl, ⟨_, _, rfl, ⟨t, rfl⟩, ⟨_, _, rfl, ⟨a, vs, rfl, e1, e2⟩, rfl⟩⟩, rfl⟩ := d
  have hvs : vs = #[.type "bytes", .type "bytearray"] := by
    obtain ⟨_, _, q1, rfl, ⟨_, _, q2, rfl, q3⟩⟩ := e2
    rw [q2, q3] at q1
    apply Array.toList_inj.mp; rw [q1]
  subst hvs
  have hT : s.TypeIs (.bytes b.toArray t) "bytes" := rfl
  refine call_isinstance (isinstance_tuple (Tx := "bytes") (cs := [.type "bytes", .type "bytearray"]) (vs := [true, false]) ⟨Answers.of_true F.isi_meta_bytes sub_bytes_bytes, isi_bytes_no (by decide) F.isi_meta_bytearray sub_bytes_bytearray, trivial⟩) ⟨hT, e1, fun tk => ?_⟩
  exact ⟨.bool true, H, h, rfl, I, Same.toks⟩
theorem calls_type_bytes {b : List UInt8} (h : Q (.type "bytes") H) : Calls g n (.type "type") [.bytes b] [] H Q := fun fv vvs kvs => Op.mk fun A Fs R s E r I d => by
  obtain ⟨rfl, ⟨_, _, rfl, ⟨t, rfl⟩, rfl⟩, rfl⟩ := d
  obtain ⟨hh, gg, dd, tt, oo⟩ := s
  refine wpAny_call (codeAny_of_tree ?_)
  show wpAny _ _ (callAny (.type "type") ⟨[.bytes b.toArray t], []⟩) _ _ _
  simp only [callAny]
  refine wpAny_pure ⟨Code.quiet_builtin _ (by decide +kernel), codeAny_builtin entry_type_call ?_⟩
  unfold Builtin.«type.__call__»
  dsimp only
  unfold shownTypeOf
  repeat wp_step
  exact ⟨.type "bytes", H, h, rfl, I, Same.rfl'⟩
theorem calls_type_bool {b : Bool} (h : Q (.type "bool") H) : Calls g n (.type "type") [.bool b] [] H Q := fun fv vvs kvs => Op.mk fun A Fs R s E r I d => by
  obtain ⟨rfl, ⟨_, _, rfl, rfl, rfl⟩, rfl⟩ := d
  obtain ⟨hh, gg, dd, tt, oo⟩ := s
  refine wpAny_call (codeAny_of_tree ?_)
  show wpAny _ _ (callAny (.type "type") ⟨[.bool b], []⟩) _ _ _
  simp only [callAny]
  refine wpAny_pure ⟨Code.quiet_builtin _ (by decide +kernel), codeAny_builtin entry_type_call ?_⟩
  unfold Builtin.«type.__call__»
  dsimp only
  unfold shownTypeOf
  repeat wp_step
  exact ⟨.type "bool", H, h, rfl, I, Same.rfl'⟩
theorem entry_iter' : entryFor table "iter" = some Builtin.«iter» := entryFor_of_fast (by kernel_rfl)
theorem entry_next' : entryFor table "next" = some Builtin.«next» := entryFor_of_fast (by kernel_rfl)
theorem args_iter1 (a : Value) : argsOk "iter" ⟨[a], []⟩ := by unfold argsOk; kernel_rfl
theorem args_next1 (a : Value) : argsOk "next" ⟨[a], []⟩ := by unfold argsOk; kernel_rfl
theorem calls_iter_bytes {b : List UInt8} (h : ∀ a, H a = none → Q (.ref a) (H.set a (.biter b 0))) : Calls g n (.builtin "iter") [.bytes b] [] H Q := fun fv vvs kvs => Op.mk fun A Fs R s E r I d => by
  obtain ⟨rfl, ⟨_, _, rfl, ⟨t, rfl⟩, rfl⟩, rfl⟩ := d
  refine call_function_entry (by decide +kernel) (by decide +kernel) entry_iter' (args_iter1 _) ?_
  unfold Builtin.«iter»
  refine wpAny_bind (m := someArgs "iter" 1 2 _) (wpAny_of_eq (a := [Value.bytes b.toArray t]) (by first | rfl | kernel_rfl!) ?_)
  show wpAny _ _ (pyIter (.bytes b.toArray t) >>= _) _ _ _
  refine wpAny_bind (PySem.W.KBw.pyIter_bytes ?_)
  exact wpAny_pure ⟨_, rfl, .ref s.heap.objs.size, _, h _ I.sizeH, rfl, I.alloc (x := .biter b 0) ⟨t, rfl⟩ rfl, Same.heap⟩
theorem calls_next_bytes {b : List UInt8} {a : Addr} {i : Nat} {c : UInt8} (hH : H a = some (.biter b i)) (hc : b[i]? = some c) (h : Q (.int c.toNat) (H.set a (.biter b (i + 1)))) : Calls g n (.builtin "next") [.ref a] [] H Q := fun fv vvs kvs => Op.mk fun A Fs R s E r I d => by
  obtain ⟨rfl, ⟨_, _, rfl, rfl, rfl⟩, rfl⟩ := d
  obtain ⟨_, _, o, ho, t, rfl⟩ := I.mine a _ hH
  have hT : s.TypeIs (.ref a) "bytes_iterator" := ⟨_, ho, rfl⟩
  refine call_function_entry (by decide +kernel) (by decide +kernel) entry_next' (args_next1 _) ?_
  unfold Builtin.«next»
  refine wpAny_bind (m := someArgs "next" 1 2 _) (wpAny_of_eq (a := [Value.ref a]) (by first | rfl | kernel_rfl!) ?_)
  dsimp only
  refine wpAny_bind (wpAny_specialOf (name := Str.ofString "__next__") hT PySem.W.KBw.slot_next.lookup ?_)
  refine wpAny_ite_split (fun hab => absurd hab (by decide)) (fun _ => ?_)
  refine wpAny_bind (wpAny_callSpecial?_slot (name := PySem.Str.ofString "__next__") hT PySem.W.KBw.slot_next
    (wpAny_call_entry PySem.W.KBw.slot_next hT PySem.W.KBw.entry_next ?_ (PySem.W.KBw.args_next _)))
  show wpAny _ _ (field (.ref a) 0 >>= _) _ _ s
  refine wpAny_bind (wpAny_field ho rfl (x := .bytes b.toArray t) rfl ?_)
  show wpAny _ _ (if (Value.bytes b.toArray t == Value.none) = true then _ else _) _ _ s
  rw [if_neg (show ¬ ((Value.bytes b.toArray t == Value.none) = true) from Bool.false_ne_true)]
  show wpAny _ _ (field (.ref a) 1 >>= _) _ _ s
  refine wpAny_bind (wpAny_field ho rfl (x := .int i 0) rfl ?_)
  refine wpAny_bind (wpAny_of_eq (a := b.toArray) rfl ?_)
  have hc' : b.toArray[i]? = some c := by simpa using hc
  simp only [Int.toNat_natCast, hc']
  refine wpAny_bind (wpAny_setField ho rfl (by simp) (wpAny_bind (wpAny_mkInt (wpAny_pure ⟨_, rfl, ?_⟩))))
  have ho' := Heap.get?_update_self (Obj.mapFields (·.setIfInBounds 1 (rawInt ((i : Int) + 1)))) ho rfl
  refine wpAny_pure ⟨_, rfl, _, _, h, ⟨_, rfl⟩, I.upd hH (Heap.SameBut.update ..) ho' ⟨t, ?_⟩, Same.mk⟩
  show Obj.mk _ _ _ _ = _
  simp [rawInt]
theorem calls_iter_list {l : Addr} {xs : List PV} (hH : H l = some (.list xs)) (h : ∀ a, H a = none → Q (.ref a) (H.set a (.liter l 0))) : Calls g n (.builtin "iter") [.ref l] [] H Q := fun fv vvs kvs => Op.mk fun A Fs R s E r I d => by
  obtain ⟨rfl, ⟨_, _, rfl, rfl, rfl⟩, rfl⟩ := d
  obtain ⟨vs, j, e1, e2⟩ := mineL I hH
  refine call_function_entry (by decide +kernel) (by decide +kernel) entry_iter' (args_iter1 _) ?_
  unfold Builtin.«iter»
  refine wpAny_bind (m := someArgs "iter" 1 2 _) (wpAny_of_eq (a := [Value.ref l]) (by first | rfl | kernel_rfl!) ?_)
  show wpAny _ _ (pyIter (.ref l) >>= _) _ _ _
  refine wpAny_bind (wpAny_pyIter_list e1.isList ?_)
  exact wpAny_pure ⟨_, rfl, .ref s.heap.objs.size, _, h _ I.sizeH, rfl, I.alloc (x := .liter l 0) ⟨rfl, rfl⟩ rfl, Same.heap⟩
theorem ob_mro : mroOf (.type "object") = pure [.type "object"] := by rw [mroOf_type]; kernel_rfl
theorem ob_lookup_new : typeLookup (.type "object") "__new__" = pure (some (.builtin "object.__new__")) := by rw [typeLookup_type, builtinLookup_eq_fast]; kernel_rfl
theorem ob_slot_init : Slot "object" "__init__" "object.__init__" :=
  .of (owner := "object") (n := "__init__") (by rw [typeLookup_type, builtinLookup_eq_fast]; kernel_rfl) (by decide +kernel) (by decide +kernel) (by decide +kernel)
    (by first | exact .inl (by decide +kernel) | exact .inr (by decide +kernel)) (by rw [isSubtype_type]; kernel_rfl)
theorem ob_called : TypeCalled "object" "object.__new__" "object.__init__" :=
  ⟨by decide +kernel, by decide +kernel, ⟨_, _, ob_mro⟩, madeBy_type ob_mro ob_lookup_new (by decide +kernel), by decide +kernel, by rw [isSubtype_type]; kernel_rfl, ob_slot_init⟩
theorem ob_typeCall : checkTypeCall "object" ⟨[], []⟩ = pure () := by kernel_rfl
theorem ob_newCall : checkBuiltinCall "object.__new__" ⟨[.type "object"], []⟩ = pure () := by kernel_rfl
theorem ob_entry : entryFor table "object.__new__" = some Builtin.«object.__new__» := by first | exact entryFor_of_fast (by kernel_rfl) | exact entryFor_of_tree (by kernel_rfl)
theorem ob_madeHere : Bind.madeHere "object.__new__" (.type "object") = pure () := by kernel_rfl
theorem ob_args (o : Value) : argsOk "object.__init__" ⟨[o], []⟩ := by
  unfold argsOk; rw [signature?_of (id := "object.__init__") (n := ['_', '_', 't', 'i', 'n', 'i', '_', '_']) (o := ['t', 'c', 'e', 'j', 'b', 'o']) (by kernel_rfl) F.owner_object]; kernel_rfl
theorem ob_new : Meets (Builtin.«object.__new__» ⟨[.type "object"], []⟩) (fun _ R s => R (.ok (.ret (.ref s.heap.objs.size))) { s with heap := s.heap.push { cls := .type "object" } }) :=
  .of_wp fun prog w A R s h => by
    obtain ⟨hh, gg, dd, tt, oo⟩ := s
    have h1 := ob_madeHere
    unfold Builtin.«object.__new__»
    repeat (any_goals (first | assumption | wp_step))
    all_goals exact ⟨_, rfl, h⟩
theorem calls_object (h : ∀ a, H a = none → Q (.ref a) (H.set a .plain)) : Calls g n (.type "object") [] [] H Q := fun fv vvs kvs => Op.mk fun A Fs R s E r I d => by
  obtain ⟨rfl, rfl, rfl⟩ := d
  refine callType_meets (Q₁ := fun obj s₁ => s₁.TypeIs obj "object" ∧ ∃ b H', Q b H' ∧ Den s₁.heap b obj ∧ HI g Fs R H' s₁.heap ∧ Same s s₁) ob_called ob_typeCall ob_newCall ob_entry F.entry_object_init ob_new ?_ fun obj s₁ h₁ => ?_
  · exact ⟨⟨_, Heap.get?_push_size _ rfl, rfl⟩, .ref s.heap.objs.size, _, h _ I.sizeH, rfl, I.alloc (x := .plain) ⟨rfl, fun _ _ q => (by cases q)⟩ rfl, Same.heap⟩
  · refine ⟨h₁.1, ob_args obj, (fun _ R s => R (.ok (.ret .none)) s), ?_, rfl, h₁.2⟩
    exact Meets.of_wp fun prog w A R s hs => wpAny_pure ⟨_, rfl, hs⟩
end
end Mine
end
section
open PySem PySem.Calls PyProof.Rows
namespace Mine
theorem lk_hit {x : Str} {v : PV} {m : Vars} : List.lookup x ((x, v) :: m) = some v := by
  rw [List.lookup_cons, beq_self_eq_true]
theorem lk_skip {x y : Str} {v : PV} {m : Vars} {r : Option PV} (h : (x == y) = false) (k : List.lookup x m = r) : List.lookup x ((y, v) :: m) = r := by
  rw [List.lookup_cons, h]; exact k
theorem HF.set_none {H : HF} {a b : Addr} {x : AO} (h : H.set a x b = none) : b ≠ a ∧ H b = none := by
  unfold HF.set at h
  split at h
  · cases h
  · exact ⟨‹_›, h⟩
theorem HF.Le.new {K H : HF} {a : Addr} {x : AO} (h : H a = none) (k : K.Le H) : K.Le (H.set a x) := fun b z e => by
  have := k b z e
  rw [HF.set_other (fun q => by rw [q, h] at this; cases this)]; exact this
theorem HF.Le.newK {K H : HF} {a : Addr} {x : AO} (h : K a = none) (k : K.Le H) : K.Le (H.set a x) := fun b z e => by
  have := k b z e
  rw [HF.set_other (fun q => by rw [q, h] at e; cases e)]; exact this
theorem HF.Le.cong {K H : HF} {a : Addr} {x : AO} (k : K.Le H) : (K.set a x).Le (H.set a x) := fun b z e => by
  by_cases q : b = a
  · subst q; rw [HF.set_self] at e ⊢; exact e
  · rw [HF.set_other q] at e ⊢; exact k b z e
section
variable {c : Cx} {m : Vars} {H : HF} {rest : List Stmt} {Q : Fl → Vars → HF → Prop}
theorem Then_next (h : EvSs c rest m H Q) : Then c rest Q .next m H := h
theorem Then_ret {v : PV} (h : Q (.ret v) m H) : Then c rest Q (.ret v) m H := h
theorem Then_cont (h : Q .cont m H) : Then c rest Q .cont m H := h
theorem Then_brk (h : Q .brk m H) : Then c rest Q .brk m H := h
variable {σ : Type} {Mv : σ → Vars} {Hh : σ → HF} {S : σ → Prop}
theorem TurnEnd_next (h : ∃ st, S st ∧ Vars.Le (Mv st) m ∧ (Hh st).Le H) : TurnEnd Mv Hh S Q .next m H := h
theorem TurnEnd_cont (h : ∃ st, S st ∧ Vars.Le (Mv st) m ∧ (Hh st).Le H) : TurnEnd Mv Hh S Q .cont m H := h
theorem TurnEnd_brk (h : Q .next m H) : TurnEnd Mv Hh S Q .brk m H := h
def asgOK (t value : Expr) : Bool := !isStar t && notComp value && match t with
  | .Name .. => true
  | .Subscript .. => true
  | .Tuple .. => match value with
    | .Tuple .. => false
    | .List .. => false
    | _ => true
  | _ => false
theorem EvS_AssignX {t value : Expr} {pos : Pos} (ho : asgOK t value = true) (hsw : ∀ env, env.scope = c.sc → swapsWithSole [t] value pos.line env = pure false) (hnt : ∀ env, env.scope = c.sc → swappedStores [t] value env = pure none)
    (h : EvE c value m H fun v H1 => EvA c t v m H1 fun m2 H2 => Q .next m2 H2) : EvS c (.Assign [t] value pos) m H Q :=
  EvS_Assign hsw (by simpa using (Bool.and_eq_true_iff.mp (Bool.and_eq_true_iff.mp ho).1).1) hnt h
theorem vle_nil : Vars.Le [] m := fun _ _ e => by cases e
theorem vle_cons {x : Str} {p : PV} {r : Vars} (h : m.lookup x = some p) (k : Vars.Le r m) : Vars.Le ((x, p) :: r) m := fun y q e => by
  rw [List.lookup_cons] at e
  cases z : y == x with
  | true => rw [z] at e; cases e; rw [eq_of_beq z]; exact h
  | false => rw [z] at e; exact k y q e
end
section
variable {g : G} {n : Nat} {H : HF} {Q : PV → HF → Prop}
theorem sub_listN {v i : Expr} {a : Addr} {xs : List PV} {k : Nat} {p : PV} (hs : notSlice i = true) (hH : H a = some (.list xs)) (h1 : k < 100000) (hp : xs[k]? = some p) (h : Q p H) : SubO g n v i (.ref a) (.int k) H Q :=
  sub_list hs hH (by omega) (by omega) (by simpa using hp) h
theorem set_listN {a : Addr} {xs : List PV} {k : Nat} {p : PV} {Q : HF → Prop} (hH : H a = some (.list xs)) (h1 : k < xs.length) (hn : xs.length ≤ 100000) (h : Q (H.set a (.list (xs.set k p)))) : SetO g n (.ref a) (.int k) p H Q :=
  set_list hH (by omega) (by omega) hn (by simpa using h)
end
/-! parameters -/
section
variable {g : G} {fd : FuncData} {K : PySem.W.Frag}
theorem mkBinds {vs : List PV} {kw : List (Str × PV)} {pb : Vars} (X : K.In g.h₀) (f : List Value → List Value → List (Str × Value))
    (h : ∀ (s : Shared) vvs kvs, DenL s.heap vs vvs → DenL s.heap (kw.map (·.2)) kvs → (∀ S, PySem.W.peek K S (bindArgs fd ⟨vvs, (kw.map (·.1)).zip kvs⟩) = some (f vvs kvs)) ∧ BDen s.heap pb (f vvs kvs)) : Binds g fd vs kw pb := fun s vvs kvs hk d1 d2 =>
  let ⟨h1, h2⟩ := h s vvs kvs d1 d2
  ⟨_, PySem.W.kp_binds (X.keeps hk) h1, h2⟩
theorem binds1 {x : Str} {p : PV} (X : K.In g.h₀) (h : ∀ a S, PySem.W.peek K S (bindArgs fd ⟨[a], []⟩) = some [(x, a)]) : Binds g fd [p] [] [(x, p)] := by
  refine mkBinds X (fun vvs _ => [x].zip vvs) fun s vvs kvs d1 d2 => ?_
  obtain ⟨_, _, rfl, q1, rfl⟩ := d1
  rw [show kvs = [] from d2]
  exact ⟨h _, rfl, _, _, rfl, q1, rfl⟩
theorem binds2 {x y : Str} {p q : PV} (X : K.In g.h₀) (h : ∀ a b S, PySem.W.peek K S (bindArgs fd ⟨[a, b], []⟩) = some [(x, a), (y, b)]) : Binds g fd [p, q] [] [(x, p), (y, q)] := by
  refine mkBinds X (fun vvs _ => [x, y].zip vvs) fun s vvs kvs d1 d2 => ?_
  obtain ⟨_, _, rfl, q1, _, _, rfl, q2, rfl⟩ := d1
  rw [show kvs = [] from d2]
  exact ⟨h _ _, rfl, _, _, rfl, q1, _, _, rfl, q2, rfl⟩
theorem binds3 {x y z : Str} {p q r : PV} (X : K.In g.h₀) (h : ∀ a b c S, PySem.W.peek K S (bindArgs fd ⟨[a, b, c], []⟩) = some [(x, a), (y, b), (z, c)]) : Binds g fd [p, q, r] [] [(x, p), (y, q), (z, r)] := by
  refine mkBinds X (fun vvs _ => [x, y, z].zip vvs) fun s vvs kvs d1 d2 => ?_
  obtain ⟨_, _, rfl, q1, _, _, rfl, q2, _, _, rfl, q3, rfl⟩ := d1
  rw [show kvs = [] from d2]
  exact ⟨h _ _ _, rfl, _, _, rfl, q1, _, _, rfl, q2, _, _, rfl, q3, rfl⟩
/-- one given, two by default -/
theorem binds1n {x y z : Str} {p : PV} (X : K.In g.h₀) (h : ∀ a S, PySem.W.peek K S (bindArgs fd ⟨[a], []⟩) = some [(x, a), (y, .none)]) : Binds g fd [p] [] [(x, p), (y, .none)] := by
  refine mkBinds X (fun vvs _ => [x, y].zip (vvs ++ [.none])) fun s vvs kvs d1 d2 => ?_
  obtain ⟨_, _, rfl, q1, rfl⟩ := d1
  rw [show kvs = [] from d2]
  exact ⟨h _, rfl, _, _, rfl, q1, _, _, rfl, rfl, rfl⟩
theorem binds1nb {x y z : Str} {p : PV} {b : Bool} (X : K.In g.h₀) (h : ∀ a S, PySem.W.peek K S (bindArgs fd ⟨[a], []⟩) = some [(x, a), (y, .none), (z, .bool b)]) : Binds g fd [p] [] [(x, p), (y, .none), (z, .bool b)] := by
  refine mkBinds X (fun vvs _ => [x, y, z].zip (vvs ++ [.none, .bool b])) fun s vvs kvs d1 d2 => ?_
  obtain ⟨_, _, rfl, q1, rfl⟩ := d1
  rw [show kvs = [] from d2]
  exact ⟨h _, rfl, _, _, rfl, q1, _, _, rfl, rfl, _, _, rfl, rfl, rfl⟩
theorem binds2n {x y z : Str} {p q : PV} (X : K.In g.h₀) (h : ∀ a b S, PySem.W.peek K S (bindArgs fd ⟨[a, b], []⟩) = some [(x, a), (y, b), (z, .none)]) : Binds g fd [p, q] [] [(x, p), (y, q), (z, .none)] := by
  refine mkBinds X (fun vvs _ => [x, y, z].zip (vvs ++ [.none])) fun s vvs kvs d1 d2 => ?_
  obtain ⟨_, _, rfl, q1, _, _, rfl, q2, rfl⟩ := d1
  rw [show kvs = [] from d2]
  exact ⟨h _ _, rfl, _, _, rfl, q1, _, _, rfl, q2, _, _, rfl, rfl, rfl⟩
/-- one given, one by its name -/
theorem binds1k {x y : Str} {p q : PV} (X : K.In g.h₀) (h : ∀ a b S, PySem.W.peek K S (bindArgs fd ⟨[a], [(y, b)]⟩) = some [(x, a), (y, b)]) : Binds g fd [p] [(y, q)] [(x, p), (y, q)] := by
  refine mkBinds X (fun vvs kvs => [x, y].zip (vvs ++ kvs)) fun s vvs kvs d1 d2 => ?_
  obtain ⟨_, _, rfl, q1, rfl⟩ := d1
  obtain ⟨_, _, rfl, q2, rfl⟩ := d2
  exact ⟨h _ _, rfl, _, _, rfl, q1, _, _, rfl, q2, rfl⟩
end
end Mine
end
section
open PySem PySem.Calls PyProof.Rows
namespace Mine
section
variable {c : Cx} {m : Vars} {H : HF} {Q : PV → HF → Prop} {o : Expr} {apos pos : Pos} {args : List Expr}
def methOK (o : Expr) (apos pos : Pos) (args : List Expr) : Bool := args.all (fun e => !isStar e) && notCallE o && (apos.endLine == pos.line) && decide (args.length < 20)
theorem meth_of {name : String} {id : String} (hs : (Str.ofString name).toString = name) (slot : Slot "list" name id) (hty : typeOf (.builtin id) = pure (.type "method_descriptor")) (hok : methOK o apos pos args = true)
    (h : EvE c o m H fun ov H1 => ∃ a xs, ov = .ref a ∧ H1 a = some (.list xs) ∧ EvL c pos args m H1 fun vs H2 => Calls c.g c.n (.builtin id) (ov :: vs) [] H2 Q) : EvE c (.Call (.Attribute o (Str.ofString name) apos) args [] pos) m H Q := by
  unfold methOK at hok
  simp only [Bool.and_eq_true] at hok
  exact meth_list hok.1.1.1 hok.1.1.2 hok.1.2 hok.2 (by rw [hs]; exact slot) (by rw [hs]) hty h
theorem meth_append (hok : methOK o apos pos args = true)
    (h : EvE c o m H fun ov H1 => ∃ a xs, ov = .ref a ∧ H1 a = some (.list xs) ∧ EvL c pos args m H1 fun vs H2 => Calls c.g c.n (.builtin "list.append") (ov :: vs) [] H2 Q) : EvE c (.Call (.Attribute o (Str.ofString "append") apos) args [] pos) m H Q :=
  meth_of (by decide +kernel) PySem.F.slot_list_append (by kernel_rfl) hok h
theorem meth_pop (hok : methOK o apos pos args = true)
    (h : EvE c o m H fun ov H1 => ∃ a xs, ov = .ref a ∧ H1 a = some (.list xs) ∧ EvL c pos args m H1 fun vs H2 => Calls c.g c.n (.builtin "list.pop") (ov :: vs) [] H2 Q) : EvE c (.Call (.Attribute o (Str.ofString "pop") apos) args [] pos) m H Q :=
  meth_of (by decide +kernel) PySem.F.slot_list_pop (by kernel_rfl) hok h
theorem meth_insert (hok : methOK o apos pos args = true)
    (h : EvE c o m H fun ov H1 => ∃ a xs, ov = .ref a ∧ H1 a = some (.list xs) ∧ EvL c pos args m H1 fun vs H2 => Calls c.g c.n (.builtin "list.insert") (ov :: vs) [] H2 Q) : EvE c (.Call (.Attribute o (Str.ofString "insert") apos) args [] pos) m H Q :=
  meth_of (by decide +kernel) PySem.F.slot_list_insert (by kernel_rfl) hok h
end
section
variable {c : Cx} {m : Vars} {H : HF} {rest : List Stmt} {Q : Fl → Vars → HF → Prop} {σ : Type} {Mv : σ → Vars} {Hh : σ → HF} {S : σ → Prop}
/-- where paths meet -/
def Cut (Mv : σ → Vars) (Hh : σ → HF) (S : σ → Prop) (Q : Fl → Vars → HF → Prop) : Fl → Vars → HF → Prop
  | .next, m, H => ∃ st, S st ∧ Vars.Le (Mv st) m ∧ (Hh st).Le H
  | f, m, H => Q f m H
theorem Cut_next (h : ∃ st, S st ∧ Vars.Le (Mv st) m ∧ (Hh st).Le H) : Cut Mv Hh S Q .next m H := h
theorem Cut_ret {v : PV} (h : Q (.ret v) m H) : Cut Mv Hh S Q (.ret v) m H := h
theorem EvS_cut {st : Stmt} (Mv : σ → Vars) (Hh : σ → HF) (S : σ → Prop) (h1 : EvS c st m H (Cut Mv Hh S (Then c rest Q))) (h2 : ∀ t, S t → EvSs c rest (Mv t) (Hh t) Q) : EvS c st m H (Then c rest Q) := by
  refine EvS.mono h1 fun fl m1 H1 hq => ?_
  cases fl with
  | next =>
    obtain ⟨t, a, b, d⟩ := hq
    exact EvM.weak b d (h2 t a)
  | _ => exact hq
end
end Mine
end
section
open PySem PySem.Calls PyProof.Rows
namespace Mine
theorem band_nat (a b : Nat) : Builtin.bitAnd (a : Int) (b : Int) = ((a &&& b : Nat) : Int) := by
  rw [bitAnd_pp (Int.natCast_nonneg _) (Int.natCast_nonneg _), Int.toNat_natCast, Int.toNat_natCast]
theorem bor_nat (a b : Nat) : Builtin.bitOr (a : Int) (b : Int) = ((a ||| b : Nat) : Int) := by
  show Builtin.bitNot (Builtin.bitAnd (Builtin.bitNot a) (Builtin.bitNot b)) = _
  have h1 : ¬ 0 ≤ Builtin.bitNot (a : Int) := by unfold Builtin.bitNot; omega
  have h2 : ¬ 0 ≤ Builtin.bitNot (b : Int) := by unfold Builtin.bitNot; omega
  rw [bitAnd_nn h1 h2]
  have h3 : ∀ x : Int, Builtin.bitNot (Builtin.bitNot x) = x := fun x => by unfold Builtin.bitNot; omega
  rw [h3, h3, h3]
  simp
theorem band_mask (a k : Nat) : Builtin.bitAnd (a : Int) ((2 ^ k - 1 : Nat) : Int) = ((a % 2 ^ k : Nat) : Int) := by
  rw [band_nat, Nat.and_two_pow_sub_one_eq_mod]
theorem bor_add {a b k : Nat} (h : b < 2 ^ k) : Builtin.bitOr ((a * 2 ^ k : Nat) : Int) (b : Int) = ((a * 2 ^ k + b : Nat) : Int) := by
  rw [bor_nat]
  have := Nat.shiftLeft_add_eq_or_of_lt h a
  rw [Nat.shiftLeft_eq] at this
  rw [this]
theorem lk_hit' {x : Str} {v w : PV} {m : Vars} (h : v = w) : List.lookup x ((x, v) :: m) = some w := by subst h; exact lk_hit
section
variable {g : G} {n : Nat} {H : HF} {Q : PV → HF → Prop}
theorem bin_mask {a : Nat} {x : Int} (k : Nat) (hx : x = ((2 ^ k - 1 : Nat) : Int)) (h : Q (.int (a % 2 ^ k : Nat)) H) : BinO g n .BitAnd (.int a) (.int x) H Q :=
  bin_and (by rw [hx, band_mask]; exact h)
theorem bin_orN {a b : Nat} (k : Nat) (hb : b < 2 ^ k) (h : Q (.int (a * 2 ^ k + b : Nat)) H) : BinO g n .BitOr (.int (a * 2 ^ k : Nat)) (.int b) H Q :=
  bin_or (by rw [bor_add hb]; exact h)
theorem ibin_orN {a b : Nat} (k : Nat) (hb : b < 2 ^ k) (h : Q (.int (a * 2 ^ k + b : Nat)) H) : IBinO g n .BitOr (.int (a * 2 ^ k : Nat)) (.int b) H Q :=
  ibin_or (by rw [bor_add hb]; exact h)
theorem bin_shlN {a : Nat} {y : Int} (k : Nat) (hy : y = (k : Int)) (hk : k ≤ 1000) (ha : a < 2 ^ 64) (h : Q (.int (a * 2 ^ k : Nat)) H) : BinO g n .LShift (.int a) (.int y) H Q := by
  subst hy
  refine bin_shl (by omega) (by omega) (by rw [Int.natAbs_natCast]; exact ha) ?_
  rw [Int.toNat_natCast]
  push_cast at h; exact h
theorem ibin_shlN {a : Nat} {y : Int} (k : Nat) (hy : y = (k : Int)) (hk : k ≤ 1000) (ha : a < 2 ^ 64) (h : Q (.int (a * 2 ^ k : Nat)) H) : IBinO g n .LShift (.int a) (.int y) H Q := by
  subst hy
  refine ibin_shl (by omega) (by omega) (by rw [Int.natAbs_natCast]; exact ha) ?_
  rw [Int.toNat_natCast]
  push_cast at h; exact h
theorem bin_shrN {a : Nat} {y : Int} (k : Nat) (hy : y = (k : Int)) (h : Q (.int (a / 2 ^ k : Nat)) H) : BinO g n .RShift (.int a) (.int y) H Q := by
  subst hy
  refine bin_shr (by omega) ?_
  rw [Int.toNat_natCast]
  have e : ((2 : Int) ^ k) = ((2 ^ k : Nat) : Int) := by push_cast; rfl
  rw [e, Int.fdiv_eq_ediv_of_nonneg _ (Int.natCast_nonneg _)]
  exact h
theorem bin_addN {a b : Nat} {x : Int} (hx : x = (b : Int)) (h : Q (.int (a + b : Nat)) H) : BinO g n .Add (.int a) (.int x) H Q := by
  subst hx; exact bin_add (by push_cast at h; exact h)
theorem bin_modN {a b : Nat} {x : Int} (hx : x = (b : Int)) (hb : 0 < b) (h : Q (.int (a % b : Nat)) H) : BinO g n .Mod (.int a) (.int x) H Q := by
  subst hx
  refine bin_mod (by omega) ?_
  rw [Int.fmod_eq_emod_of_nonneg _ (Int.natCast_nonneg _)]
  exact h
theorem bin_divN {a b : Nat} {x : Int} (hx : x = (b : Int)) (hb : 0 < b) (hb2 : b < 1073741824) (h : Q (.int (a / b : Nat)) H) : BinO g n .FloorDiv (.int a) (.int x) H Q := by
  subst hx
  refine bin_div (by omega) (by simpa using hb2) ?_
  rw [Int.fdiv_eq_ediv_of_nonneg _ (Int.natCast_nonneg _)]
  exact h
theorem sub_bytesN {v i : Expr} {b : List UInt8} {k : Nat} (hs : notSlice i = true) (h1 : k < b.length) (hb : b.length ≤ 100000) (h : Q (.int (b.getD k 0).toNat) H) : SubO g n v i (.bytes b) (.int k) H Q :=
  sub_bytes hs (by omega) (by omega) hb (by rw [Int.toNat_natCast]; exact h)
end
/-- natural numbers as values, as bytes -/
def ni (l : List Nat) : List PV := l.map fun (x : Nat) => .int (x : Int)
def by8 (l : List Nat) : List UInt8 := l.map Nat.toUInt8
def Small (l : List Nat) : Prop := ∀ x ∈ l, x < 256
theorem ni_append (l k : List Nat) : ni (l ++ k) = ni l ++ ni k := by simp [ni]
theorem by8_append (l k : List Nat) : by8 (l ++ k) = by8 l ++ by8 k := by simp [by8]
theorem ni_length (l : List Nat) : (ni l).length = l.length := by simp [ni]
theorem by8_length (l : List Nat) : (by8 l).length = l.length := by simp [by8]
theorem by8_items {l : List Nat} (h : Small l) : (Src.bytes (by8 l)).items = ni l := by
  show (by8 l).map _ = _
  unfold by8 ni
  rw [List.map_map]
  refine List.map_congr_left fun x hx => ?_
  have := h x hx
  simp only [Function.comp]
  rw [UInt8.toNat_ofNat', Nat.mod_eq_of_lt this]
theorem ni_get {l : List Nat} {i : Nat} {p : PV} (h : (ni l)[i]? = some p) : ∃ b, l[i]? = some b ∧ p = .int (b : Int) := by
  unfold ni at h
  rw [List.getElem?_map] at h
  cases e : l[i]? with
  | none => rw [e] at h; cases h
  | some b => rw [e] at h; cases h; exact ⟨b, rfl, rfl⟩
theorem ni_get_none {l : List Nat} {i : Nat} (h : (ni l)[i]? = none) : l.length ≤ i := by
  have : (ni l).length ≤ i := by simpa using h
  rwa [ni_length] at this
theorem calls_bytesN {g : G} {n : Nat} {H : HF} {Q : PV → HF → Prop} {a : Addr} {l : List Nat} (hH : H a = some (.list (ni l))) (hr : Small l) (hz : l.length ≤ 100000) (h : Q (.bytes (by8 l)) H) : Calls g n (.type "bytes") [.ref a] [] H Q := by
  have e : ni l = (l.map fun (x : Nat) => (x : Int)).map .int := by simp [ni]
  rw [e] at hH
  refine calls_bytes hH (fun x hx => ?_) (by simpa using hz) ?_
  · obtain ⟨y, hy, rfl⟩ := List.mem_map.mp hx
    have := hr y hy
    omega
  · have e2 : byteL (l.map fun (x : Nat) => (x : Int)) = by8 l := by simp [byteL, by8]
    rw [e2]; exact h
end Mine
end
section
open PySem PySem.Calls PyProof.Rows
namespace Mine
/-- the heap without some objects -/
def erase (D : List Addr) (h : Heap) : Heap := { h with objs := h.objs.mapIdx fun i o => if i ∈ D then { o with data := .freed } else o }
theorem erase_get (D : List Addr) (h : Heap) (b : Addr) : (erase D h).get? b = if b ∈ D then none else h.get? b := by
  unfold erase Heap.get?
  simp only [Array.getElem?_mapIdx]
  cases e : h.objs[b]? with
  | none => simp
  | some o =>
    simp only [Option.map_some]
    split <;> rename_i hb
    · split at hb <;> simp_all
    · split <;> simp_all
/-- h1 is the ground: all but the frames D stays -/
structure Bas (g : G) (Fs : List Addr) (R : RF) (H : HF) (D : List Addr) (h1 : Heap) : Prop where
  hi : HI g Fs R H h1
  fr : ∀ L ∈ D, g.h₀.get? L = none ∧ H L = none ∧ ∃ o es ep, h1.get? L = some o ∧ o.data = .dict es ep
theorem Bas.land {g : G} {Fs : List Addr} {R : RF} {H : HF} {D : List Addr} {h1 h' : Heap} (B : Bas g Fs R H D h1) (st : (erase D h1).StaysIn h') (up : h1.UpToSlots h') : HI g Fs R H h' ∧ TupKeep h1 h' := by
  have ex : ∀ b o, b ∉ D → h1.get? b = some o → h'.get? b = some o := fun b o hb e => st b o (by rw [erase_get, if_neg hb]; exact e)
  have tk : TupKeep h1 h' := fun b o e q => ex b o (fun hb => by
    obtain ⟨_, _, o2, es, ep, e2, d2⟩ := B.fr b hb
    rw [e] at e2; cases e2
    obtain ⟨_, vs, n, d⟩ := q
    rw [d2] at d; cases d) e
  refine ⟨⟨fun b o e => ?_, fun b o e => ?_, fun a x e => ?_, fun L hL => ?_⟩, tk⟩
  · refine ex b o (fun hb => ?_) (B.hi.base b o e)
    rw [(B.fr b hb).1] at e; cases e
  · obtain ⟨o', e', k⟩ := B.hi.rest b o e
    by_cases hb : b ∈ D
    · obtain ⟨_, _, o2, es, ep, e2, d2⟩ := B.fr b hb
      rw [e'] at e2; cases e2
      obtain ⟨sl, e3⟩ := up b _ e' fun vs q => by rw [d2] at q; cases q
      exact ⟨_, e3, k.trans (.inr ⟨es, ep, sl, d2, rfl⟩)⟩
    · exact ⟨o', ex b o' hb e', k⟩
  · obtain ⟨p, q, o, e2, x2⟩ := B.hi.mine a x e
    exact ⟨p, q, o, ex a o (fun hb => by rw [(B.fr a hb).2.1] at e; cases e) e2, x2.keeps tk⟩
  · obtain ⟨p, q, o, es, ep, e2, d2⟩ := B.hi.frs L hL
    obtain ⟨sl, e3⟩ := up L _ e2 fun vs z => by rw [d2] at z; cases z
    exact ⟨p, q, _, es, ep, e3, d2⟩
/-- an exception flies -/
def Flies (g : G) (Fs : List Addr) (R : RF) (X : HF → Prop) (T : String) (l : List Env) (s : Shared) (v : Value) (s' : Shared) : Prop :=
  ∃ e a0 H' D h1, v = .ref e ∧ X H' ∧ Bas g Fs R H' D h1 ∧ Heap.FlyingW (erase D h1) l e (.type T) a0 s'.heap ∧ h1.UpToSlots s'.heap ∧ Same s s' ∧ (∀ b ∈ Fs, b ∈ D)
/-- `next` of bytes that are at their end -/
theorem next_raises {g : G} {A : Around} {Fs : List Addr} {R : RF} {H : HF} {s : Shared} {Q : Value → Shared → Prop} {E : Value → Shared → Prop} {b : List UInt8} {a : Addr} {i : Nat} (hh : A.handled = none) (I : HI g Fs R H s.heap) (hH : H a = some (.biter b i)) (hc : b[i]? = none)
    (h : ∀ h1 h' e oe vs a0, (∃ o', Heap.SameBut a s.heap h1 ∧ h1.get? a = some o' ∧ AO.plain.Is h1 { o' with cls := .type "object" }) → Ext h1 h' → h1.get? e = none → h'.get? e = some oe → oe.cls = .type "StopIteration" → oe.data = .fields vs → vs[1]? = some .none → vs[0]? = some a0 → E (.ref e) { s with heap := h' }) :
    wpAny (model g.prog g.w) A (call (.builtin "next") [.ref a]) Q E s := by
  obtain ⟨_, _, o, ho, t, rfl⟩ := I.mine a _ hH
  have hT : s.TypeIs (.ref a) "bytes_iterator" := ⟨_, ho, rfl⟩
  refine call_function_entry (by decide +kernel) (by decide +kernel) entry_next' (args_next1 _) ?_
  unfold Builtin.«next»
  refine wpAny_bind (m := someArgs "next" 1 2 _) (wpAny_of_eq (a := [Value.ref a]) (by first | rfl | kernel_rfl!) ?_)
  dsimp only
  refine wpAny_bind (wpAny_specialOf (name := Str.ofString "__next__") hT PySem.W.KBw.slot_next.lookup ?_)
  refine wpAny_ite_split (fun hab => absurd hab (by decide)) (fun _ => ?_)
  refine wpAny_bind (wpAny_callSpecial?_slot (name := PySem.Str.ofString "__next__") hT PySem.W.KBw.slot_next
    (wpAny_call_entry PySem.W.KBw.slot_next hT PySem.W.KBw.entry_next ?_ (PySem.W.KBw.args_next _)))
  show wpAny _ _ (field (.ref a) 0 >>= _) _ _ s
  refine wpAny_bind (wpAny_field ho rfl (x := .bytes b.toArray t) rfl ?_)
  show wpAny _ _ (if (Value.bytes b.toArray t == Value.none) = true then _ else _) _ _ s
  rw [if_neg (show ¬ ((Value.bytes b.toArray t == Value.none) = true) from Bool.false_ne_true)]
  show wpAny _ _ (field (.ref a) 1 >>= _) _ _ s
  refine wpAny_bind (wpAny_field ho rfl (x := .int i 0) rfl ?_)
  refine wpAny_bind (wpAny_of_eq (a := b.toArray) rfl ?_)
  have hc' : b.toArray[i]? = none := by simpa using hc
  simp only [Int.toNat_natCast, hc']
  refine wpAny_bind (wpAny_rule (wpAny_bind (wpAny_setField ho rfl (by simp) ?_)))
  refine wpAny_bind ?_
  simp only [newExc, newTuple]
  refine wpAny_bind (wpAny_newObj_type ?_ (by size_fits))
  refine wpAny_bind (m := firstArgMember _ _) (wpAny_of_eq (a := Value.none) (by first | rfl | (simp only [firstArgMember]; rfl)) ?_)
  refine wpAny_newObj_type ?_ (by size_fits)
  refine wpAny_raiseNew_none hh ?_
  have ho' := Heap.get?_update_self (Obj.mapFields (·.setIfInBounds 0 Value.none)) ho rfl
  refine h _ _ _ _ _ _ ⟨_, Heap.SameBut.update .., ho', rfl, fun _ _ q => (by cases q)⟩ ((Ext.push _ _).trans (Ext.push _ _)) ?_ (Heap.get?_push_size _ rfl) rfl rfl rfl rfl
  exact Heap.get?_none_of_le (by simp)
end Mine
end
section
open PySem PySem.Calls PyProof.Rows
namespace Mine
def HF.del (H : HF) (a : Addr) : HF := fun b => if b = a then none else H b
theorem HF.del_le (H : HF) (a : Addr) : (H.del a).Le H := fun b x e => by
  unfold HF.del at e; split at e
  · cases e
  · exact e
theorem HF.del_other {H : HF} {a b : Addr} (h : b ≠ a) : H.del a b = H b := if_neg h
theorem HF.del_self (H : HF) (a : Addr) : H.del a a = none := if_pos rfl
theorem HI.del {g : G} {Fs : List Addr} {R : RF} {H : HF} {h h' : Heap} {a : Addr} {x : AO} (I : HI g Fs R H h) (ha : H a = some x) (hs : Heap.SameBut a h h') : HI g Fs R (H.del a) h' ∧ TupKeep h h' := by
  obtain ⟨hB, hR, _⟩ := I.mine a x ha
  have hk := I.tupKeep ha hs
  refine ⟨⟨fun b o e => (hs.2 b ?_).trans (I.base b o e), fun b o e => ?_, fun b z e => ?_, fun L hL => ?_⟩, hk⟩
  · rintro rfl; rw [hB] at e; cases e
  · obtain ⟨o', e', q⟩ := I.rest b o e
    exact ⟨o', (hs.2 b (by rintro rfl; rw [hR] at e; cases e)).trans e', q⟩
  · by_cases hb : b = a
    · subst hb; rw [HF.del_self] at e; cases e
    · rw [HF.del_other hb] at e
      obtain ⟨p, q, o, h1, h2⟩ := I.mine b z e
      exact ⟨p, q, o, (hs.2 b hb).trans h1, h2.keeps hk⟩
  · obtain ⟨p, q, o, es, ep, e, d⟩ := I.frs L hL
    have hLa : L ≠ a := by rintro rfl; rw [q] at ha; cases ha
    exact ⟨p, by rw [HF.del_other hLa]; exact q, o, es, ep, (hs.2 L hLa).trans e, d⟩
/-- within a frame: an exception flies -/
def FliesI (c : Cx) (env : Env) (Fs : List Addr) (R : RF) (m : Vars) (X : HF → Prop) (T : String) (l : List Env) (s : Shared) (v : Value) (s' : Shared) : Prop :=
  ∃ e a0 H' D h1, v = .ref e ∧ X H' ∧ Inv c env Fs R m H' h1 ∧ Bas c.g Fs R H' D h1 ∧ Heap.FlyingW (erase D h1) l e (.type T) a0 s'.heap ∧ h1.UpToSlots s'.heap ∧ Same s s'
def RaiseC (g : G) (n : Nat) (f : PV) (vs : List PV) (H : HF) (X : HF → Prop) (T : String) : Prop :=
  ∀ (A : Around) (l : List Env) (Fs : List Addr) (R : RF) (s : Shared) (E : Value → Shared → Prop) (Q : Value → Shared → Prop) (fv : Value) (vvs : List Value), Room n Fs A → A.frames = some l → HI g Fs R H s.heap → Den s.heap f fv → DenL s.heap vs vvs →
    (∀ v s', Flies g Fs R X T l s v s' → E v s') → wpAny (model g.prog g.w) A (call fv vvs) Q E s
def RaiseSs (c : Cx) (ss : List Stmt) (m : Vars) (H : HF) (X : HF → Prop) (T : String) : Prop :=
  ∀ (A : Around) (env : Env) (l : List Env) (Fs : List Addr) (R : RF) (s : Shared) (E : Value → Shared → Prop) (Q : Flow → Shared → Prop), Room c.n Fs A → EnvOK c A env → A.frames = some l → Inv c env Fs R m H s.heap →
    (∀ v s', FliesI c env Fs R m X T l s v s' → E v s') → wpAny (model c.g.prog c.g.w) A (execs ss env) Q E s
theorem landI {c : Cx} {env : Env} {Fs : List Addr} {R : RF} {m : Vars} {H : HF} {D : List Addr} {h1 h' : Heap} (I : Inv c env Fs R m H h1) (B : Bas c.g Fs R H D h1) (st : (erase D h1).StaysIn h') (up : h1.UpToSlots h') : Inv c env Fs R m H h' :=
  (I.back (Bas.land (R := restR H h1) ⟨I.hi.restR, B.fr⟩ st up).1).1
section
variable {c : Cx} {m : Vars} {H : HF}
/-- the first statement raises, as what it calls does -/
theorem raise_call {A : Around} {env : Env} {Fs : List Addr} {R : RF} {s : Shared} {E : Value → Shared → Prop} {Q : Value → Shared → Prop} {x : Str} {xp pos : Pos} {args : List Expr} {Z : PV → List PV → HF → Prop} (ha : args.all (fun e => !isStar e) = true)
    (r : Room c.n Fs A) (eo : EnvOK c A env) (I : Inv c env Fs R m H s.heap)
    (h : EvE c (.Name x xp) m H fun f H1 => EvL c pos args m H1 fun vs H2 => Callee c.g f ∧ Z f vs H2)
    (k : ∀ f vs H2 fv vvs s2, Z f vs H2 → Den s2.heap f fv → DenL s2.heap vs vvs → Inv c env Fs R m H2 s2.heap → Same s s2 → wpAny (model c.g.prog c.g.w) A (call fv vvs) Q E s2) :
    wpAny (model c.g.prog c.g.w) A (eval (.Call (.Name x xp) args [] pos) env) Q E s := by
  refine wpAny_Call_Name_kw ?_
  refine wpAny_mono (EvE.run h r eo I) (fun f s1 ⟨p1, H1, q1, d1, I1, e1, k1⟩ => ?_) fun _ _ x => x
  refine callWith_any (ps := []) (kws := []) ha rfl rfl ?_
  refine wpAny_mono (EvL.run q1 r eo I1) (fun vs s2 ⟨p2, H2, ⟨hc, q2⟩, d2, I2, e2, k2⟩ => ?_) fun _ _ x => x
  refine wpAny_pure ⟨?_, ?_⟩
  · cases p1 <;> first
      | exact hc.elim
      | (left; intro a q; subst q; cases d1; done)
      | (obtain ⟨o, fd, h1, h2⟩ := hc
         cases d1
         exact .inr ⟨_, o, fd, rfl, I2.hi.base _ _ h1, h2⟩)
  · exact k p1 p2 H2 f vs s2 q2 (d1.keeps k2) d2 I2 (e1.trans e2)
theorem raise_assign {A : Around} {env : Env} {s : Shared} {E : Value → Shared → Prop} {Q : Flow → Shared → Prop} {t value : Expr} {pos : Pos} {rest : List Stmt} (hsw : swapsWithSole [t] value pos.line env = pure false)
    (h : wpAny (model c.g.prog c.g.w) A (eval value env) (fun _ _ => False) E s) : wpAny (model c.g.prog c.g.w) A (execs (.Assign [t] value pos :: rest) env) Q E s := by
  refine wpAny_execs_cons ?_
  rw [arm_exec_Assign, hsw]
  refine wpAny_bind (wpAny_standAt (wpAny_bind (wpAny_pure ?_)))
  simp only [Bool.false_eq_true, if_false]
  exact wpAny_bind (wpAny_mono h (fun a s1 q => q.elim) fun _ _ x => x)
end
theorem setFlight_someW {M : Model} {A : Around} {E : Value → Shared → Prop} {s : Shared} {base : Heap} {l : List Env} {e L : Addr} {cls a0 : Value} {Q : Unit → Shared → Prop} (hh : Heap.HeldW base l e cls a0 L s.heap)
    (hQ : ∀ h', Heap.HeldW base l e cls a0 L h' → s.heap.UpToSlots h' → Q () { s with heap := h' }) : wpAny M A (setFlight (.ref e) (some L)) Q E s := by
  obtain ⟨f1, f2, f3, oe, vs, T, oT, ts, he, hcls, hd, h1, hnT, hTe, hT, hdT, h3⟩ := hh
  have hsz3 : 3 < ts.size := (Array.getElem?_eq_some_iff.mp h3).1
  have other : ∀ b, b ≠ T → (s.heap.update T (Obj.mapFields (·.setIfInBounds 3 ((some L : Option Addr).elim Value.none fun f => rawInt f)))).get? b = s.heap.get? b :=
    fun b hb => Heap.get?_update_other _ _ (Ne.symm hb)
  have noRecord : ∀ b o, s.heap.get? b = some o → (∀ vs, o.data ≠ .fields vs) → b ≠ T := fun b o hb hnf q => by
    rw [q, hT] at hb; injection hb with hb; subst hb; exact hnf ts hdT
  unfold setFlight
  refine wpAny_bind (wpAny_field he hd h1 ?_)
  rw [if_pos (show (Value.ref T != Value.none) = true from by simp)]
  refine wpAny_setField hT hdT hsz3 (hQ _ ⟨fun b o hbo => (other b fun q => by rw [q, hnT] at hbo; cases hbo).trans (f1 b o hbo), f2,
    f3.of_keeps fun b o hb hnf => ⟨o, (other b (noRecord b o hb hnf)).trans hb, rfl⟩, ?_⟩ fun b o hb hnf => ⟨o.slots, (other b (noRecord b o hb hnf)).trans hb⟩)
  exact ⟨oe, vs, T, _, _, (other e (Ne.symm hTe)).trans he, hcls, hd, h1, hnT, hTe, Heap.get?_update_self _ hT (Obj.isFreed_of_fields (Obj.data_mapFields hdT _)), Obj.data_mapFields hdT _, by simp [hsz3]⟩
theorem cameBack_held {M : Model} {A : Around} {E : Value → Shared → Prop} {s : Shared} {base : Heap} {l : List Env} {e L : Addr} {cls a0 : Value} {env : Env} (hf : env.frame = some L) (hh : Heap.HeldW base l e cls a0 L s.heap)
    (hQ : ∀ h', Heap.HeldW base l e cls a0 L h' → s.heap.UpToSlots h' → E (.ref e) { s with heap := h' }) : cameBackBy M A env E (.ref e) s := by
  unfold cameBackBy
  obtain ⟨f1, f2, f3, oe, vs, T, oT, ts, he, hcls, hd, h1, _⟩ := id hh
  refine wpAny_bind (wpAny_field he hd h1 ?_)
  rw [if_neg (show ¬ ((Value.ref T == Value.none) = true) from by simp)]
  rw [hf]
  exact setFlight_someW hh hQ
end Mine
end
section
open PySem PySem.Calls PyProof.Rows
namespace Mine
theorem stop_exc : isSubtype (.type "StopIteration") (.type "BaseException") = pure true := by rw [isSubtype_type]; kernel_rfl
theorem stop_nt : isSubtype (.type ((Manifest.find? "StopIteration").elim "type" fun x => x.metatype)) (.type "tuple") = pure false := by
  rw [show ((Manifest.find? "StopIteration").elim "type" fun x => x.metatype) = "type" from by decide +kernel, isSubtype_type]; kernel_rfl
theorem stop_stop : isSubtype (.type "StopIteration") (.type "StopIteration") = pure true := by rw [isSubtype_type]; kernel_rfl
section
variable {c : Cx} {m : Vars} {H : HF}
theorem EvS_TryStop {σ : Type} (Mv : σ → Vars) (Hh : σ → HF) (S : σ → Prop) (μ : σ → Nat) {body : List Stmt} {x : Str} {k : Nat} {p1 p2 p3 p4 p5 p6 p7 : Pos} {Q : Fl → Vars → HF → Prop} (htp : c.tp = true)
    (hx : kindIn c x = some .local) (hxd : (x == ("__debug__" : Str)) = false) (hs : kindIn c (Str.ofString "StopIteration") = some .globalImplicit) (hg : c.g.glob.lookup (Str.ofString "StopIteration") = some (.type "StopIteration"))
    (h0 : ∃ st, S st ∧ Vars.Le (Mv st) m ∧ (Hh st).Le H)
    (h : ∀ st, S st → EvSs c body (Mv st) (Hh st) (TurnEnd Mv Hh (fun st' => S st' ∧ μ st' < μ st) Q) ∨
      RaiseSs c body (Mv st) (Hh st) (fun H' => ∃ v, (Mv st).lookup x = some v ∧ Q (.ret v) (Mv st) H') "StopIteration") :
    EvS c (.Try [.While (.Constant (.bool true) k p1) body [] p2] [.ExceptHandler (some (.Name (Str.ofString "StopIteration") p3)) none [.Return (some (.Name x p4)) p5] p6] [] [] p7) m H Q := by
  refine EvM.mk fun A env Fs R s E r eo I => wpAny_Try_except (wpAny_execs_cons (wpAny_While ?_))
  obtain ⟨outer, hfr, hef⟩ := eo.top htp
  obtain ⟨st, hS, hm, hH⟩ := h0
  refine codeAny_whileLoop (fun n s' => ∃ st, S st ∧ μ st = n ∧ Inv c env Fs R (Mv st) (Hh st) s'.heap ∧ Same s s') (fun n s1 hI => ?_) (μ st) ⟨st, hS, rfl, I.less hm hH, Same.rfl'⟩
  obtain ⟨st, hS, rfl, I1, e1⟩ := hI
  have ht : EvT c (.Constant (.bool true) k p1) (Mv st) (Hh st) (fun b H' => b = true ∧ H' = Hh st) := EvT_value rfl (EvE_bool (tru_bool ⟨rfl, rfl⟩))
  refine wpAny_mono (EvT.run ht r eo I1) (fun a s2 ⟨H2, ⟨hb, hH2⟩, I2, e2, k2⟩ => ?_) fun _ _ x => x
  subst hb hH2
  simp only [if_true]
  rcases h st hS with hn | hr
  · refine wpAny_mono (EvM.run hn r eo I2) (fun v s3 ⟨p3, m3, H3, q3, d3, I3, e3, k3⟩ => ?_) fun _ _ x => x
    have e5 := (e1.trans e2).trans e3
    cases p3 with
    | next => cases d3; obtain ⟨st', ⟨z1, z2⟩, z3, z4⟩ := q3; exact ⟨_, z2, st', z1, rfl, I3.less z3 z4, e5⟩
    | cont => cases d3; obtain ⟨st', ⟨z1, z2⟩, z3, z4⟩ := q3; exact ⟨_, z2, st', z1, rfl, I3.less z3 z4, e5⟩
    | brk =>
      cases d3
      refine wpAny_execs_nil ?_
      exact wpAny_execs_nil ⟨.next, m3, H3, q3, rfl, I3, e5⟩
    | ret p => obtain ⟨w, rfl, d⟩ := d3; exact ⟨.ret p, m3, H3, q3, ⟨w, rfl, d⟩, I3, e5⟩
  · refine hr A env (env :: outer) Fs R s2 _ _ r eo hfr I2 fun v s3 hF => ?_
    obtain ⟨e, a0, H', D, h1, rfl, ⟨rv, hrv, hQ⟩, J, B, hfl, up, e3⟩ := hF
    show wpAny _ A (noteFrame (.ref e) env) _ _ s3
    refine wpAny_looks_onW hfr hef hfl fun h4 hh4 u4 => ?_
    refine cameBack_held hef hh4 fun h5 hh5 u5 => ?_
    refine wpAny_noteFrame_againW hef hh5.2.2.2 ?_
    refine wpAny_landsW hh5 fun h6 hf6 u6 => ?_
    refine wpAny_handleBy_builtin (X := "StopIteration") (T := "StopIteration") (b := true) stop_exc stop_nt stop_stop ?_
    have up6 := ((up.trans u4).trans u5).trans u6
    have J6 : Inv c env Fs R (Mv st) H' h6 := landI J B hf6.1 up6
    have hkf : env.scope.kind = .function := by rw [eo.scope]; exact eo.kind
    have hkx : env.kindOf (Str.ofString "StopIteration") = some .globalImplicit := by unfold Env.kindOf; rw [eo.scope]; exact hs
    refine Name_function_global hkf hkx ?_ (by decide +kernel)
    obtain ⟨mg, mb, n1, n2, hn⟩ := c.g.names
    obtain ⟨w, d, hw⟩ := hn _ _ hg
    have hcont : (Value.type "StopIteration" = Value.type "StopIteration" ∧ ({ s3 with heap := h6 } : Shared).TypeIs (.ref e) "StopIteration" ∧ wpAny (model c.g.prog c.g.w) (A.mark (some (.ref e))) (setFlight (.ref e) none) (fun _ s₂ => wpAny (model c.g.prog c.g.w) (A.mark (some (.ref e))) (execs [.Return (some (.Name x p4)) p5] env)
        (fun a s' => ∃ b m' H', Q b m' H' ∧ FlRel s'.heap b a ∧ Inv c env Fs R m' H' s'.heap ∧ Same s s') (notedBy (model c.g.prog c.g.w) (A.mark (some (.ref e))) env (cameBackBy (model c.g.prog c.g.w) A env E)) s₂) (notedBy (model c.g.prog c.g.w) (A.mark (some (.ref e))) env (cameBackBy (model c.g.prog c.g.w) A env E)) { s3 with heap := h6 }) := by
      refine ⟨rfl, hf6.there, ?_⟩
      refine wpAny_setFlight_noneW hf6.1 hf6.2.2.1 hf6.2.2.2.at fun h7 x1 x2 x3 x4 => ?_
      have J7 : Inv c env Fs R (Mv st) H' h7 := landI J B x1 (up6.trans fun b o hb hn => ⟨o.slots, x4 b o hb hn⟩)
      refine wpAny_execs_cons (wpAny_Return_some (wpAny_Name ?_ hxd))
      obtain ⟨mv, nn, hm⟩ := J7.locs
      obtain ⟨u, hu, du⟩ := hm x rv hrv hx
      refine wpAny_loadName_local hkf (by unfold Env.kindOf; rw [eo.scope]; exact hx) nn hu ?_
      exact ⟨.ret rv, Mv st, H', hQ, ⟨u, rfl, du⟩, J7, ((e1.trans e2).trans e3).trans Same.heap⟩
    cases d
    rcases hw with hw | ⟨hw, hw'⟩
    · exact loadGlobal_global (by rw [eo.globals]; exact n1.keeps J6.hi.base) hw hcont
    · exact loadGlobal_builtin (by rw [eo.globals]; exact n1.keeps J6.hi.base) hw (by rw [eo.builtins]; exact n2.keeps J6.hi.base) hw' hcont
end
theorem funFrames_of {base h : Heap} : ∀ {l : List Env} {Fs : List Addr}, l.map (·.frame) = Fs.map some → (∀ e ∈ l, e.scope.kind ≠ .module) → (∀ L ∈ Fs, base.get? L = none ∧ ∃ o es ep, h.get? L = some o ∧ o.data = .dict es ep) → h.FunFrames base l
  | [], _, _, _, _ => trivial
  | env :: l, [], e, _, _ => by cases e
  | env :: l, L :: Fs, e, hk, hf => by
    simp only [List.map_cons, List.cons.injEq] at e
    obtain ⟨q1, o, es, ep, q2, q3⟩ := hf L (by simp)
    exact ⟨hk env (by simp), ⟨L, o, e.1, q1, q2, fun vs z => by rw [q3] at z; cases z⟩, funFrames_of e.2 (fun e he => hk e (by simp [he])) fun L hL => hf L (by simp [hL])⟩
/-- a function whose first statement calls `next` of bytes that are at their end -/
theorem raise_fn {g : G} {n : Nat} {a : Addr} {o : Obj} {fd : FuncData} {t : Expr} {x : Str} {xp pos pos' : Pos} {args : List Expr} {rest : List Stmt} {vs : List PV} {pb : Vars} {H : HF} {it : Addr} {b : List UInt8} {i : Nat}
    (ho : g.h₀.get? a = some o) (hd : o.data = .func fd) (hbody : fd.body = .stmts (.Assign [t] (.Call (.Name x xp) args [] pos) pos' :: rest)) (hok : fnOK fd.scope pb = true)
    (hclo : fd.closure = []) (hgl : fd.globals = mainGlobals) (hbl : fd.builtins = builtinsNs) (hcd : g.h₀.CodeRec fd.code fd.qualname) (hb : Binds g fd vs [] pb) (hsw : ∀ env, swapsWithSole [t] (.Call (.Name x xp) args [] pos) pos'.line env = pure false) (ha : args.all (fun e => !isStar e) = true)
    (hH : H it = some (.biter b i)) (hc : b[i]? = none)
    (h : EvE (fnCx g n fd.scope) (.Name x xp) pb H fun f H1 => EvL (fnCx g n fd.scope) pos args pb H1 fun vs H2 => Callee g f ∧ f = .builtin "next" ∧ vs = [.ref it] ∧ H2 = H) :
    RaiseC g (n + 1) (.ref a) vs H (fun H' => H' = H.del it) "StopIteration" := by
  intro A l Fs R s E Q fv vvs r hfr I d1 d2 hE
  cases d1
  have q := call_core (E := E) (K := Q) (kvs := []) ho hd hbody hok hclo hgl hbl hcd hb r I d2 (rfl : DenL s.heap [] []) fun env s' l' hl hef r' eo J kE hs hfr' => ?_
  · exact q
  rw [hfr] at hl; cases hl
  refine raise_assign (c := fnCx g n fd.scope) (hsw env) (raise_call (Z := fun f vs H2 => f = .builtin "next" ∧ vs = [.ref it] ∧ H2 = H) ha r' eo J h fun f vs H2 fv vvs s2 hz e1 e2 J2 es2 => ?_)
  obtain ⟨rfl, rfl, rfl⟩ := hz
  cases e1
  obtain ⟨_, _, rfl, rfl, rfl⟩ := e2
  refine next_raises r'.1 J2.hi hH hc fun h1 h' e oe vs' a0 hsb hex hen he hcls hdat hv1 hv0 => ?_
  obtain ⟨o', hsb, _, _⟩ := hsb
  obtain ⟨K1, tk⟩ := J2.hi.del hH hsb
  obtain ⟨_, _, _, l2, rf2, rl2, rk2⟩ := r'
  rw [hfr'] at rf2; cases rf2
  have hD : ∀ L ∈ env.locals :: Fs, (erase (env.locals :: Fs) h1).get? L = none ∧ ∃ o es ep, h'.get? L = some o ∧ o.data = .dict es ep := fun L hL => by
    obtain ⟨p, q, o, es, ep, e, d⟩ := K1.frs L hL
    exact ⟨by rw [erase_get, if_pos hL], o, es, ep, hex _ _ e, d⟩
  have hst : (erase (env.locals :: Fs) h1).StaysIn h' := fun b o e => by
    rw [erase_get] at e
    split at e
    · cases e
    · exact hex _ _ e
  have hB : Bas g Fs R (H2.del it) (env.locals :: Fs) h1 := ⟨{ K1 with frs := fun L hL => K1.frs L (List.mem_cons_of_mem _ hL) }, K1.frs⟩
  have hen' : (erase (env.locals :: Fs) h1).get? e = none := by
    rw [erase_get]; split
    · rfl
    · exact hen
  refine wpAny_leaving_firstW (base := erase (env.locals :: Fs) h1) (outer := l) (L := env.locals) hfr' (funFrames_of rl2 rk2 hD) hef he hst hen' hdat hv1 hv0 fun h2 hL => ?_
  obtain ⟨k1, ⟨_, _, k2⟩, k3, k4⟩ := hL
  rw [hcls] at k3
  exact hE _ _ ⟨e, a0, _, _, h1, rfl, rfl, hB, ⟨k1, hen', k2, k3⟩, (Heap.UpToSlots.of_keeps hex).trans k4, (hs.trans es2).trans Same.heap, fun b hb => List.mem_cons_of_mem _ hb⟩
/-- a statement `x = f(..)` that raises -/
theorem raise_assign_call {c : Cx} {m : Vars} {H : HF} {X : HF → Prop} {T : String} {t : Expr} {x : Str} {xp pos pos' : Pos} {args : List Expr} {rest : List Stmt} (hsw : ∀ env, swapsWithSole [t] (.Call (.Name x xp) args [] pos) pos'.line env = pure false) (ha : args.all (fun e => !isStar e) = true)
    (h : EvE c (.Name x xp) m H fun f H1 => EvL c pos args m H1 fun vs H2 => Callee c.g f ∧ RaiseC c.g c.n f vs H2 X T) : RaiseSs c (.Assign [t] (.Call (.Name x xp) args [] pos) pos' :: rest) m H X T := by
  intro A env l Fs R s E Q r eo hfr I hE
  refine raise_assign (hsw env) (raise_call (Z := fun f vs H2 => RaiseC c.g c.n f vs H2 X T) ha r eo I h fun f vs H2 fv vvs s2 hz d1 d2 J es => ?_)
  refine hz A l Fs (restR H2 s2.heap) s2 E _ fv vvs r hfr J.hi.restR d1 d2 fun v s3 hF => ?_
  obtain ⟨e, a0, H', D, h1, rfl, hX, B, fl, up, e3, _⟩ := hF
  obtain ⟨J1, tk⟩ := J.back B.hi
  refine hE _ _ ⟨e, a0, H', D, h1, rfl, hX, J1, ⟨J1.hi, B.fr⟩, fl, up, es.trans e3⟩
end Mine
end
section
open PySem PySem.Calls PyProof.Rows
namespace Mine
theorem HI.delExt {g : G} {Fs : List Addr} {R : RF} {H : HF} {h h' : Heap} {a : Addr} {x : AO} (I : HI g Fs R H h) (ha : H a = some x) (hs : Heap.ExtBut a h h') : HI g Fs R (H.del a) h' := by
  obtain ⟨hB, hR, o0, ho0, hx0⟩ := I.mine a x ha
  have hk : TupKeep h h' := fun b o e q => hs b o (fun z => by
    subst z
    rw [ho0] at e; cases e
    exact hx0.notTup q.1) e
  refine ⟨fun b o e => hs b o ?_ (I.base b o e), fun b o e => ?_, fun b z e => ?_, fun L hL => ?_⟩
  · rintro rfl; rw [hB] at e; cases e
  · obtain ⟨o', e', q⟩ := I.rest b o e
    exact ⟨o', hs b _ (by rintro rfl; rw [hR] at e; cases e) e', q⟩
  · by_cases hb : b = a
    · subst hb; rw [HF.del_self] at e; cases e
    · rw [HF.del_other hb] at e
      obtain ⟨p, q, o, h1, h2⟩ := I.mine b z e
      exact ⟨p, q, o, hs b o hb h1, h2.keeps hk⟩
  · obtain ⟨p, q, o, es, ep, e, d⟩ := I.frs L hL
    have hLa : L ≠ a := by rintro rfl; rw [q] at ha; cases ha
    exact ⟨p, by rw [HF.del_other hLa]; exact q, o, es, ep, hs L o hLa e, d⟩
theorem HF.Le.delK {K H : HF} {a : Addr} (h : K a = none) (k : K.Le H) : K.Le (H.del a) := fun b z e => by
  rw [HF.del_other (fun q => by subst q; rw [h] at e; cases e)]; exact k b z e
theorem hname_min : (toString "min" ++ toString ".loop" : String) = "min.loop" := by decide
theorem args_min_dk (a d : Value) : argsOk "min" ⟨[a], [(Str.ofString "default", d), (Str.ofString "key", .none)]⟩ := by unfold argsOk; kernel_rfl
section
variable {g : G} {A : Around} {Fs : List Addr} {R : RF} {Rr : Result → Shared → Prop}
theorem lt_rich {a b : Int} {t u : Tok} {s : Shared} {E : Value → Shared → Prop} {Q : Value → Shared → Prop} (h : Q (.bool (decide (a < b))) s) : wpAny (model g.prog g.w) A (richCompare .Lt (.int a t) (.int b u)) Q E s :=
  CmpOf.ints_lt (P := fun i v => (i = 0 → v = .int a t) ∧ (i ≠ 0 → v = .int b u)) (fun i => if i = 0 then a else b) (fun i v ⟨h1, h2⟩ => by
    by_cases q : i = 0
    · rw [if_pos q]; exact ⟨t, h1 q⟩
    · rw [if_neg q]; exact ⟨u, h2 q⟩) 0 1 _ _ s Q E ⟨fun _ => rfl, fun q => absurd rfl q⟩ ⟨fun q => absurd q (by decide), fun _ => rfl⟩ h
/-- one item off a list's iterator -/
theorem liter_item {H : HF} {s : Shared} {E : Value → Shared → Prop} {I l : Addr} {i : Nat} {xs : List PV} {p : PV} (J : HI g Fs R H s.heap) (hI : H I = some (.liter l i)) (hl : H l = some (.list xs)) (hp : xs[i]? = some p) {K : Option Value → Shared → Prop}
    (h : ∀ v h', Den h' p v → HI g Fs R (H.set I (.liter l (i + 1))) h' → TupKeep s.heap h' → K (some v) { s with heap := h' }) : wpAny (model g.prog g.w) A (pyNext (.ref I)) K E s := by
  obtain ⟨_, _, o, ho, h1, h2⟩ := J.mine I _ hI
  obtain ⟨vs, k, q1, q2⟩ := mineL J hl
  obtain ⟨v, e1, d⟩ := q2.get hp
  refine wpAny_pyNext_list_item ⟨o, ho, h1, h2⟩ q1.isList (by simpa using e1) fun h' k1 k2 => ?_
  obtain ⟨o', z1, z2, z3⟩ := k1
  have tk := J.tupKeep hI k2
  exact h v h' (d.keeps tk) (J.upd hI k2 z1 ⟨z2, z3⟩) tk
theorem liter_end {H : HF} {s : Shared} {E : Value → Shared → Prop} {I l : Addr} {i : Nat} {xs : List PV} (hh : A.handled = none) (J : HI g Fs R H s.heap) (hI : H I = some (.liter l i)) (hl : H l = some (.list xs)) (hp : xs[i]? = none) {K : Option Value → Shared → Prop}
    (h : ∀ h', HI g Fs R (H.del I) h' → K none { s with heap := h' }) : wpAny (model g.prog g.w) A (pyNext (.ref I)) K E s := by
  obtain ⟨_, _, o, ho, h1, h2⟩ := J.mine I _ hI
  obtain ⟨vs, k, q1, q2⟩ := mineL J hl
  have e1 : vs[i]? = none := by
    have : xs.length ≤ i := by simpa using hp
    rw [Array.getElem?_eq_none]; rw [denSize q2]; exact this
  exact wpAny_pyNext_list_end hh ⟨o, ho, h1, h2⟩ q1.isList e1 fun h' k1 => h h' (J.delExt hI k1)
theorem two_of {h : Heap} {b : Int} {vs : Array Value} (d : DenL h [.int b, .int b] vs.toList) : ∃ t u, vs = #[.int b t, .int b u] := by
  obtain ⟨_, _, e1, ⟨t1, rfl⟩, ⟨_, _, e2, ⟨t2, rfl⟩, rfl⟩⟩ := d
  exact ⟨t1, t2, by apply Array.toList_inj.mp; rw [e1, e2]⟩
theorem min_loop {l I S : Addr} {ns : List Int} {dv : Value} {Hb : HF} (hh : A.handled = none) (hIl : I ≠ l) (hSI : S ≠ I) (hSl : S ≠ l) (bI : Hb I = none) (bS : Hb S = none) :
    ∀ (r i : Nat) (b : Int) (H : HF) (s : Shared), ns.length - i = r → i ≤ ns.length → HI g Fs R H s.heap → Hb.Le H → H I = some (.liter l i) → H l = some (.list (ns.map .int)) → H S = some (.list [.int b, .int b]) →
      (∀ s' t, HI g Fs R Hb s'.heap → Same s s' → Rr (.ok (.ret (.int ((ns.drop i).foldl min b) t))) s') →
      codeAny (model g.prog g.w) A (.builtin "min.loop" ⟨[.ref I, .none, .ref S], [(Str.ofString "default", dv)]⟩) Rr s := by
  intro r
  induction r with
  | zero =>
    intro i b H s hr hi J hle hI hl hS hR
    have hin : i = ns.length := by omega
    refine codeAny_builtin PySem.F.entry_min_loop ?_
    rw [Around.under_plainId PySem.F.plain_min_loop _]
    show wpAny _ A.in1 (seqItems? (.ref S) >>= _) _ _ s
    obtain ⟨_, _, oS, gS, vs, c, rfl, dS⟩ := J.mine S _ hS
    obtain ⟨t1, t2, rfl⟩ := two_of dS
    refine wpAny_bind (wpAny_seqItems gS rfl ?_)
    show wpAny _ A.in1 (tryCatch (pyNext (.ref I)) _ >>= _) _ _ s
    refine wpAny_bind (wpAny_tryCatch (liter_end (by exact hh) J hI hl (by rw [List.getElem?_eq_none]; simp; omega) fun h' J1 => ?_))
    have hS1 : H.del I S = some (.list [.int b, .int b]) := by rw [HF.del_other hSI]; exact hS
    obtain ⟨_, _, oS, gS', vs, c', rfl, dS⟩ := J1.mine S _ hS1
    obtain ⟨u1, u2, rfl⟩ := two_of dS
    show wpAny _ A.in1 (updateSeq S (fun _ => #[]) >>= _) _ _ _
    refine wpAny_bind ?_
    refine wpAny_updateSeq gS' rfl (wpAny_bind (wpAny_letGo (wpAny_pure ?_)))
    have J2 := J1.upd (y := .list []) hS1 (Heap.SameBut.update ..) (Heap.get?_update_self (Obj.mapSeq fun _ => #[]) gS' rfl) ⟨#[], _, rfl, rfl⟩
    have hd : ns.drop i = [] := List.drop_of_length_le (by omega)
    rw [hd] at hR
    exact hR _ t1 (J2.less (HF.Le.newK bS (HF.Le.delK bI hle))) Same.heap
  | succ r ih =>
    intro i b H s hr hi J hle hI hl hS hR
    have hlt : i < ns.length := by omega
    refine codeAny_builtin PySem.F.entry_min_loop ?_
    rw [Around.under_plainId PySem.F.plain_min_loop _]
    show wpAny _ A.in1 (seqItems? (.ref S) >>= _) _ _ s
    obtain ⟨_, _, oS, gS, vs, c, rfl, dS⟩ := J.mine S _ hS
    obtain ⟨t1, t2, rfl⟩ := two_of dS
    refine wpAny_bind (wpAny_seqItems gS rfl ?_)
    show wpAny _ A.in1 (tryCatch (pyNext (.ref I)) _ >>= _) _ _ s
    refine wpAny_bind (wpAny_tryCatch (liter_item J hI hl (p := .int ns[i]) (by simp [hlt]) fun v h' d1 J1 tk1 => ?_))
    obtain ⟨t3, rfl⟩ := d1
    have hS1 : (H.set I (.liter l (i + 1))) S = some (.list [.int b, .int b]) := by rw [HF.set_other hSI]; exact hS
    show wpAny _ A.in1 (tryCatch (holding [.int ns[i] t3, .int ns[i] t3] (richCompare .Lt (.int ns[i] t3) (.int b t2) >>= _)) _ >>= _) _ _ _
    refine wpAny_bind (wpAny_tryCatch (wpAny_holding (wpAny_bind (lt_rich ?_))))
    refine wpAny_bind (wpAny_holding (wpAny_truthy_bool ?_))
    refine wpAny_bind (wpAny_letGo (wpAny_pure ?_))
    have hdrop : ns.drop i = ns[i] :: ns.drop (i + 1) := List.drop_eq_getElem_cons hlt
    rw [hdrop, List.foldl_cons] at hR
    have hle1 : Hb.Le (H.set I (.liter l (i + 1))) := HF.Le.newK bI hle
    have hl1 : (H.set I (.liter l (i + 1))) l = some (.list (ns.map .int)) := by rw [HF.set_other (Ne.symm hIl)]; exact hl
    cases hb : decide (ns[i] < b) with
    | true =>
      simp only [if_true]
      obtain ⟨_, _, oS, gS', vs, c', rfl, dS⟩ := J1.mine S _ hS1
      obtain ⟨u1, u2, rfl⟩ := two_of dS
      refine wpAny_bind ?_
      refine wpAny_updateSeq gS' rfl (wpAny_bind (wpAny_letGo ?_))
      rw [hname_min]
      have J2 := J1.upd (y := .list [.int ns[i], .int ns[i]]) hS1 (Heap.SameBut.update ..) (Heap.get?_update_self (Obj.mapSeq fun _ => #[.int ns[i] t3, .int ns[i] t3]) gS' rfl) ⟨#[.int ns[i] t3, .int ns[i] t3], _, rfl, _, _, rfl, ⟨t3, rfl⟩, _, _, rfl, ⟨t3, rfl⟩, rfl⟩
      have hm : min b ns[i] = ns[i] := by have := of_decide_eq_true hb; omega
      rw [hm] at hR
      refine wpAny_pure ⟨plainId_quiet PySem.F.plain_min_loop _, ih (i + 1) ns[i] _ _ (by omega) hlt J2 (HF.Le.newK bS hle1) (by rw [HF.set_other (Ne.symm hSI), HF.set_self]) (by rw [HF.set_other (Ne.symm hSl)]; exact hl1) (HF.set_self ..) fun s' t K1 e1 => ?_⟩
      exact hR s' t K1 (Same.heap.trans (Same.heap.trans e1))
    | false =>
      simp only [Bool.false_eq_true, if_false]
      refine wpAny_bind (wpAny_letGo ?_)
      rw [hname_min]
      have hm : min b ns[i] = b := by have := of_decide_eq_false hb; omega
      rw [hm] at hR
      refine wpAny_pure ⟨plainId_quiet PySem.F.plain_min_loop _, ih (i + 1) b _ _ (by omega) hlt J1 hle1 (HF.set_self ..) hl1 hS1 fun s' t K1 e1 => ?_⟩
      exact hR s' t K1 (Same.heap.trans e1)
theorem min_first {l I S d : Addr} {ns : List Int} {Hb H : HF} {s : Shared} (hh : A.handled = none) (hIl : I ≠ l) (hSI : S ≠ I) (hSl : S ≠ l) (bI : Hb I = none) (bS : Hb S = none)
    (J : HI g Fs R H s.heap) (hle : Hb.Le H) (hI : H I = some (.liter l 0)) (hl : H l = some (.list (ns.map .int))) (hS : H S = some (.list []))
    (hR : ∀ s' v, (match ns with | [] => v = .ref d | x :: r => ∃ t, v = .int (r.foldl min x) t) → HI g Fs R Hb s'.heap → Same s s' → Rr (.ok (.ret v)) s') :
    codeAny (model g.prog g.w) A (.builtin "min.loop" ⟨[.ref I, .none, .ref S], [(Str.ofString "default", .ref d)]⟩) Rr s := by
  refine codeAny_builtin PySem.F.entry_min_loop ?_
  rw [Around.under_plainId PySem.F.plain_min_loop _]
  show wpAny _ A.in1 (seqItems? (.ref S) >>= _) _ _ s
  obtain ⟨_, _, oS, gS, vs, c, rfl, dS⟩ := J.mine S _ hS
  have hvs : vs = #[] := by apply Array.toList_inj.mp; exact dS
  subst hvs
  refine wpAny_bind (wpAny_seqItems gS rfl ?_)
  show wpAny _ A.in1 (tryCatch (pyNext (.ref I)) _ >>= _) _ _ s
  cases ns with
  | nil =>
    refine wpAny_bind (wpAny_tryCatch (liter_end (by exact hh) J hI hl rfl fun h' J1 => ?_))
    refine wpAny_bind (wpAny_rule (wpAny_pure ?_))
    exact hR _ _ rfl (J1.less (HF.Le.delK bI hle)) Same.heap
  | cons x r =>
    refine wpAny_bind (wpAny_tryCatch (liter_item J hI hl (p := .int x) rfl fun v h' d1 J1 tk1 => ?_))
    obtain ⟨t3, rfl⟩ := d1
    have hS1 : (H.set I (.liter l (0 + 1))) S = some (.list []) := by rw [HF.set_other hSI]; exact hS
    obtain ⟨_, _, oS, gS', vs, c', rfl, dS⟩ := J1.mine S _ hS1
    have hvs : vs = #[] := by apply Array.toList_inj.mp; exact dS
    subst hvs
    show wpAny _ A.in1 (updateSeq S (fun _ => #[.int x t3, .int x t3]) >>= _) _ _ _
    refine wpAny_bind ?_
    refine wpAny_updateSeq gS' rfl ?_
    rw [hname_min]
    have J2 := J1.upd (y := .list [.int x, .int x]) hS1 (Heap.SameBut.update ..) (Heap.get?_update_self (Obj.mapSeq fun _ => #[.int x t3, .int x t3]) gS' rfl) ⟨#[.int x t3, .int x t3], _, rfl, _, _, rfl, ⟨t3, rfl⟩, _, _, rfl, ⟨t3, rfl⟩, rfl⟩
    refine wpAny_pure ⟨plainId_quiet PySem.F.plain_min_loop _, min_loop (ns := x :: r) hh hIl hSI hSl bI bS _ 1 x _ _ rfl (Nat.succ_le_succ (Nat.zero_le _)) J2 (HF.Le.newK bS (HF.Le.newK bI hle)) (by rw [HF.set_other (Ne.symm hSI), HF.set_self]) (by rw [HF.set_other (Ne.symm hSl), HF.set_other (Ne.symm hIl)]; exact hl) (HF.set_self ..) fun s' t K1 e1 => ?_⟩
    exact hR s' _ ⟨t, rfl⟩ K1 (Same.heap.trans (Same.heap.trans e1))
end
def minD (d : PV) : List Int → PV
  | [] => d
  | x :: r => .int (r.foldl min x)
theorem calls_min_dflt {g : G} {n : Nat} {H : HF} {Q : PV → HF → Prop} {I l d : Addr} {ns : List Int} (hI : H I = some (.liter l 0)) (hl : H l = some (.list (ns.map .int))) (hIl : I ≠ l)
    (h : Q (minD (.ref d) ns) (H.del I)) : Calls g n (.builtin "min") [.ref I] [(Str.ofString "default", .ref d), (Str.ofString "key", .none)] H Q := fun fv vvs kvs => Op.mk fun A Fs R s E r J p => by
  obtain ⟨rfl, ⟨_, _, rfl, rfl, rfl⟩, ⟨_, _, rfl, rfl, ⟨_, _, rfl, rfl, rfl⟩⟩⟩ := p
  refine kmb_tree PySem.F.kind_min PySem.F.plain_min PySem.F.entry_min (args_min_dk _ _) ?_
  show wpAny _ A.in1 (Builtin.Builtins.bindParams "min" ["key", "default"] 0 ⟨[], [(Str.ofString "default", .ref d), (Str.ofString "key", .none)]⟩ >>= _) _ _ s
  refine wpAny_bind (wpAny_of_eq (show Builtin.Builtins.bindParams "min" ["key", "default"] 0 ⟨[], [(Str.ofString "default", .ref d), (Str.ofString "key", .none)]⟩ = pure [some .none, some (.ref d)] from rfl) ?_)
  refine wpAny_bind (wpAny_pure ?_)
  obtain ⟨_, _, o, ho, h1, h2⟩ := J.mine I _ hI
  refine wpAny_bind (iter_self (i := 0) (src := .list l (ns.map .int)) ho ⟨h1, h2⟩ _ _ ?_)
  refine wpAny_bind (wpAny_newList ?_ (Nat.zero_le _))
  rw [hname_min]
  have J1 := J.alloc (x := .list []) (o := { cls := .type "list", data := .seq #[] }) ⟨#[], _, rfl, rfl⟩ rfl
  have zS := J.sizeH
  have hIS : s.heap.objs.size ≠ I := fun q => by rw [q, hI] at zS; cases zS
  have hlS : s.heap.objs.size ≠ l := fun q => by rw [q, hl] at zS; cases zS
  refine wpAny_pure ⟨plainId_quiet PySem.F.plain_min_loop _, min_first (Hb := H.del I) (d := d) r.1 hIl hIS hlS (HF.del_self ..) (by rw [HF.del_other hIS]; exact zS) J1 (HF.Le.newK (by rw [HF.del_other hIS]; exact zS) (HF.del_le _ _)) (by rw [HF.set_other (Ne.symm hIS)]; exact hI) (by rw [HF.set_other (Ne.symm hlS)]; exact hl) (HF.set_self ..) fun s' v hv K e => ?_⟩
  refine ⟨_, _, h, ?_, K, Same.heap.trans e⟩
  cases ns with
  | nil => exact hv
  | cons x r => exact hv
end Mine
end
section
open PySem PySem.Calls PyProof.Rows
namespace Mine
section
variable {c : Cx} {m : Vars} {H : HF}
theorem filterMap_take {α β : Type} {l : List α} {f : α → Option β} {i : Nat} {x : α} (h : l[i]? = some x) : (l.take (i + 1)).filterMap f = (l.take i).filterMap f ++ (f x).toList := by
  rw [List.take_add_one, h, List.filterMap_append]
  cases e : f x <;> simp [e]
/-- one generator, nothing kept but the list -/
theorem EvG_filterMap {elt : Expr} {scope : Scope} {pos : Pos} {target iter : Expr} {ifs : List Expr} {src : Src} {m0 : Vars} {H1 : HF} {Q : Vars → List PV → HF → Prop} (f : PV → Option PV) (hok : src.ok H1) (hlen : src.items.length ≤ 100000)
    (h : ∀ (i : Nat) (x : PV), src.items[i]? = some x → EvA c target x m0 H1 fun m1 H2 => Vars.Le m0 m1 ∧ EvIfs c ifs m1 H2 fun ok H3 => (ok = true → EvE c elt m1 H3 fun y H4 => H1.Le H4 ∧ f x = some y) ∧ (ok = false → H1.Le H3 ∧ f x = none))
    (hQ : Q m0 (src.items.filterMap f) H1) : EvG c (.ListComp elt [⟨target, iter, ifs, 0⟩] scope pos) 0 src m0 [] H1 Q := by
  refine EvG_mk (σ := List PV) (fun _ => m0) (fun _ => H1) (fun st => st) (fun i st => st = (src.items.take i).filterMap f) rfl (fun g hg => by cases hg) ⟨[], rfl, Vars.Le.refl _, HF.Le.refl _, rfl⟩ fun i st hS => ⟨hok.okL, fun x hx => ?_, fun hx => ?_⟩
  · have hlt : i < src.items.length := by
      rcases Nat.lt_or_ge i src.items.length with q | q
      · exact q
      · rw [List.getElem?_eq_none q] at hx; cases hx
    have hl2 : st.length < 100000 := by
      rw [hS]
      have : ((src.items.take i).filterMap f).length ≤ i := Nat.le_trans (List.length_filterMap_le ..) (by rw [List.length_take]; omega)
      omega
    refine fun A env Fs R s E w r eo I d => wpAny_mono (h i x hx A env Fs R s E w r eo I d) (fun _ s1 ⟨m1, H2, ⟨q0, q1⟩, q2⟩ => ⟨m1, H2, ?_, q2⟩) fun _ _ x => x
    have key : ∀ ok H3, ((ok = true → EvE c elt m1 H3 fun y H4 => H1.Le H4 ∧ f x = some y) ∧ (ok = false → H1.Le H3 ∧ f x = none)) →
        ((ok = true → EvIn c (.ListComp elt [⟨target, iter, ifs, 0⟩] scope pos) elt [⟨target, iter, ifs, 0⟩] (0 + 1) m1 st H3 fun m4 acc4 H4 => ∃ st', st' = (src.items.take (i + 1)).filterMap f ∧ Vars.Le m0 m4 ∧ H1.Le H4 ∧ st' = acc4) ∧
        (ok = false → ∃ st', st' = (src.items.take (i + 1)).filterMap f ∧ Vars.Le m0 m1 ∧ H1.Le H3 ∧ st' = st)) := fun ok H3 hh => by
      refine ⟨fun ho => ?_, fun ho => ?_⟩
      · refine EvE.mono (hh.1 ho) fun y H4 ⟨a, b⟩ => ⟨hl2, _, rfl, q0, a, ?_⟩
        rw [filterMap_take hx, b, hS]; rfl
      · obtain ⟨a, b⟩ := hh.2 ho
        refine ⟨_, rfl, q0, a, ?_⟩
        rw [filterMap_take hx, b, hS]; simp
    unfold EvIfs at q1 ⊢
    split at q1
    · exact key _ _ q1
    · exact EvT.mono q1 fun ok H3 hh => key _ _ hh
    · exact q1
  · have : src.items.length ≤ i := by simpa using hx
    rw [hS, List.take_of_length_le this]
    exact hQ
theorem EvE_Comp1 {elt : Expr} {scope : Scope} {pos : Pos} {target iter : Expr} {ifs : List Expr} {Q : PV → HF → Prop} (m0 : Vars) (f : PV → Option PV) (hok : compOK scope c.sc = true) (hns : notSet iter = true) (hm : compVars scope m = m0)
    (h : EvE c iter m H fun v H1 => ∃ src : Src, src.val = v ∧ src.ok H1 ∧ src.items.length ≤ 100000 ∧ (∀ (i : Nat) (x : PV), src.items[i]? = some x → EvA (compCx c scope) target x m0 H1 fun m1 H2 => Vars.Le m0 m1 ∧ EvIfs (compCx c scope) ifs m1 H2 fun ok H3 =>
      (ok = true → EvE (compCx c scope) elt m1 H3 fun y H4 => H1.Le H4 ∧ f x = some y) ∧ (ok = false → H1.Le H3 ∧ f x = none)) ∧ ∀ a, H1 a = none → Q (.ref a) (H1.set a (.list (src.items.filterMap f)))) :
    EvE c (.ListComp elt [⟨target, iter, ifs, 0⟩] scope pos) m H Q := by
  subst hm
  refine EvE_ListComp rfl hok hns (EvE.mono h fun v H1 ⟨src, h1, h2, h3, h4, h5⟩ => ⟨src, h1, h2, EvG_filterMap f h2 h3 h4 h5⟩)
theorem EvS_Comp1 {x : Str} {px : Pos} {elt : Expr} {scope : Scope} {cpos pos : Pos} {target iter : Expr} {ifs : List Expr} {Q : Fl → Vars → HF → Prop} (m0 : Vars) (f : PV → Option PV) (hsw : ∀ env, env.scope = c.sc → swapsWithSole [.Name x px] (.ListComp elt [⟨target, iter, ifs, 0⟩] scope cpos) pos.line env = pure true) (hk : kindIn c x = some .local)
    (hok : compOK scope c.sc = true) (hns : notSet iter = true) (hm : compVars scope m = m0)
    (h : EvE c iter m H fun v H1 => ∃ src : Src, src.val = v ∧ src.ok H1 ∧ src.items.length ≤ 100000 ∧ (∀ (i : Nat) (x : PV), src.items[i]? = some x → EvA (compCx c scope) target x m0 H1 fun m1 H2 => Vars.Le m0 m1 ∧ EvIfs (compCx c scope) ifs m1 H2 fun ok H3 =>
      (ok = true → EvE (compCx c scope) elt m1 H3 fun y H4 => H1.Le H4 ∧ f x = some y) ∧ (ok = false → H1.Le H3 ∧ f x = none)) ∧ ∀ a, H1 a = none → Q .next ((x, .ref a) :: m) (H1.set a (.list (src.items.filterMap f)))) :
    EvS c (.Assign [.Name x px] (.ListComp elt [⟨target, iter, ifs, 0⟩] scope cpos) pos) m H Q := by
  subst hm
  refine EvS_AssignComp hsw hk rfl hok hns (EvE.mono h fun v H1 ⟨src, h1, h2, h3, h4, h5⟩ => ⟨src, h1, h2, EvG_filterMap f h2 h3 h4 h5⟩)
theorem EvE_CompM {elt : Expr} {gens : List Comprehension} {scope : Scope} {pos : Pos} {target iter : Expr} {ifs : List Expr} {rest : List Comprehension} {Q : PV → HF → Prop} (m0 : Vars) (hgens : gens = ⟨target, iter, ifs, 0⟩ :: rest) (hok : compOK scope c.sc = true) (hns : notSet iter = true) (hm : compVars scope m = m0)
    (h : EvE c iter m H fun v H1 => ∃ src : Src, src.val = v ∧ src.ok H1 ∧ EvG (compCx c scope) (.ListComp elt gens scope pos) 0 src m0 [] H1 (fun _ acc H2 => ∀ a, H2 a = none → Q (.ref a) (H2.set a (.list acc)))) :
    EvE c (.ListComp elt gens scope pos) m H Q := by
  subst hm; exact EvE_ListComp hgens hok hns h
theorem EvS_CompM {x : Str} {px : Pos} {elt : Expr} {gens : List Comprehension} {scope : Scope} {cpos pos : Pos} {target iter : Expr} {ifs : List Expr} {rest : List Comprehension} {Q : Fl → Vars → HF → Prop} (m0 : Vars)
    (hsw : ∀ env, env.scope = c.sc → swapsWithSole [.Name x px] (.ListComp elt gens scope cpos) pos.line env = pure true) (hk : kindIn c x = some .local)
    (hgens : gens = ⟨target, iter, ifs, 0⟩ :: rest) (hok : compOK scope c.sc = true) (hns : notSet iter = true) (hm : compVars scope m = m0)
    (h : EvE c iter m H fun v H1 => ∃ src : Src, src.val = v ∧ src.ok H1 ∧ EvG (compCx c scope) (.ListComp elt gens scope cpos) 0 src m0 [] H1 (fun _ acc H2 => ∀ a, H2 a = none → Q .next ((x, .ref a) :: m) (H2.set a (.list acc)))) :
    EvS c (.Assign [.Name x px] (.ListComp elt gens scope cpos) pos) m H Q := by
  subst hm; exact EvS_AssignComp hsw hk hgens hok hns h
theorem EvIfs_nil {Q : Bool → HF → Prop} (h : Q true H) : EvIfs c [] m H Q := h
theorem EvIfs_one {t : Expr} {Q : Bool → HF → Prop} (h : EvT c t m H Q) : EvIfs c [t] m H Q := h
theorem EvIn_gen {e elt : Expr} {gens : List Comprehension} {d : Nat} {acc : List PV} {K : Vars → List PV → HF → Prop} {t iter : Expr} {ifs : List Expr} {n : Nat} (hg : gens[d]? = some ⟨t, iter, ifs, n⟩) (hns : notSet iter = true)
    (h : EvE c iter m H fun v H3 => ∃ src : Src, src.val = v ∧ src.ok H3 ∧ EvG c e d src m acc H3 K) : EvIn c e elt gens d m acc H K := by
  unfold EvIn; rw [hg]; exact ⟨hns, h⟩
theorem EvIn_elt {e elt : Expr} {gens : List Comprehension} {d : Nat} {acc : List PV} {K : Vars → List PV → HF → Prop} (hg : gens[d]? = none) (h : EvE c elt m H fun y H3 => acc.length < 100000 ∧ K m (acc ++ [y]) H3) : EvIn c e elt gens d m acc H K := by
  unfold EvIn; rw [hg]; exact h
theorem vle_new {x : Str} {v : PV} {r : Vars} (h : r.lookup x = none) (k : Vars.Le r m) : Vars.Le r ((x, v) :: m) := fun y q e => by
  have := k y q e
  rw [List.lookup_cons]
  cases z : y == x with
  | true => rw [eq_of_beq z, h] at e; cases e
  | false => exact this
end
end Mine
end
section
open PySem PySem.Calls PyProof.Rows
namespace Mine
section
def b64tab : List UInt8 := [65, 66, 67, 68, 69, 70, 71, 72, 73, 74, 75, 76, 77, 78, 79, 80, 81, 82, 83, 84, 85, 86, 87, 88, 89, 90, 97, 98, 99, 100, 101, 102, 103, 104, 105, 106, 107, 108, 109, 110, 111, 112, 113, 114, 115, 116, 117, 118, 119, 120, 121, 122, 48, 49, 50, 51, 52, 53, 54, 55, 56, 57, 43, 47]
def globs : Vars := [
  (Str.ofString "heappush", .ref 28),
  (Str.ofString "heappop", .ref 35),
  (Str.ofString "_heapreplace_max", .ref 42),
  (Str.ofString "_heapify_max", .ref 49),
  (Str.ofString "_siftdown", .ref 56),
  (Str.ofString "_siftup", .ref 63),
  (Str.ofString "_siftdown_max", .ref 70),
  (Str.ofString "_siftup_max", .ref 77),
  (Str.ofString "nsmallest", .ref 83),
  (Str.ofString "_bytes_from_decode_data", .ref 91),
  (Str.ofString "_ascii_buffer", .ref 111),
  (Str.ofString "_buffer", .ref 118),
  (Str.ofString "_truth", .ref 125),
  (Str.ofString "_b64_value", .ref 132),
  (Str.ofString "a2b_base64", .ref 140),
  (Str.ofString "b2a_base64", .ref 148),
  (Str.ofString "b64encode", .ref 156),
  (Str.ofString "b64decode", .ref 164),
  (Str.ofString "_parse_varint", .ref 171),
  (Str.ofString "_law_ways", .ref 176),
  (Str.ofString "_law_octets", .ref 183),
  (Str.ofString "_law_entry", .ref 190),
  (Str.ofString "_law_label", .ref 197),
  (Str.ofString "_law_sums", .ref 202),
  (Str.ofString "_law_search", .ref 207),
  (Str.ofString "_law_lengths", .ref 212),
  (Str.ofString "_law_hubs", .ref 217),
  (Str.ofString "law", .ref 222),
  (Str.ofString "len", .builtin "len"),
  (Str.ofString "min", .builtin "min"),
  (Str.ofString "sum", .builtin "sum"),
  (Str.ofString "iter", .builtin "iter"),
  (Str.ofString "next", .builtin "next"),
  (Str.ofString "isinstance", .builtin "isinstance"),
  (Str.ofString "bytes", .type "bytes"),
  (Str.ofString "object", .type "object"),
  (Str.ofString "str", .type "str"),
  (Str.ofString "type", .type "type"),
  (Str.ofString "bool", .type "bool"),
  (Str.ofString "bytearray", .type "bytearray"),
  (Str.ofString "StopIteration", .type "StopIteration"),
  (Str.ofString "range", .type "range"),
  (Str.ofString "bytes_types", .tup [.type "bytes", .type "bytearray"]),
  (Str.ofString "_B64", .bytes b64tab)]
structure Prog (g : G) : Prop where
  K : (Mine.KK g.w.params).In g.h₀
  gl : g.glob = globs
theorem Prog.g_heappush {g : G} (P : Prog g) : g.glob.lookup (Str.ofString "heappush") = some (.ref 28) := by rw [P.gl]; kernel_rfl
theorem Prog.g_heappop {g : G} (P : Prog g) : g.glob.lookup (Str.ofString "heappop") = some (.ref 35) := by rw [P.gl]; kernel_rfl
theorem Prog.g_siftdown {g : G} (P : Prog g) : g.glob.lookup (Str.ofString "_siftdown") = some (.ref 56) := by rw [P.gl]; kernel_rfl
theorem Prog.g_siftup {g : G} (P : Prog g) : g.glob.lookup (Str.ofString "_siftup") = some (.ref 63) := by rw [P.gl]; kernel_rfl
theorem Prog.g_nsmallest {g : G} (P : Prog g) : g.glob.lookup (Str.ofString "nsmallest") = some (.ref 83) := by rw [P.gl]; kernel_rfl
theorem Prog.g_bytes_from_decode_data {g : G} (P : Prog g) : g.glob.lookup (Str.ofString "_bytes_from_decode_data") = some (.ref 91) := by rw [P.gl]; kernel_rfl
theorem Prog.g_ascii_buffer {g : G} (P : Prog g) : g.glob.lookup (Str.ofString "_ascii_buffer") = some (.ref 111) := by rw [P.gl]; kernel_rfl
theorem Prog.g_buffer {g : G} (P : Prog g) : g.glob.lookup (Str.ofString "_buffer") = some (.ref 118) := by rw [P.gl]; kernel_rfl
theorem Prog.g_truth {g : G} (P : Prog g) : g.glob.lookup (Str.ofString "_truth") = some (.ref 125) := by rw [P.gl]; kernel_rfl
theorem Prog.g_b64_value {g : G} (P : Prog g) : g.glob.lookup (Str.ofString "_b64_value") = some (.ref 132) := by rw [P.gl]; kernel_rfl
theorem Prog.g_a2b_base64 {g : G} (P : Prog g) : g.glob.lookup (Str.ofString "a2b_base64") = some (.ref 140) := by rw [P.gl]; kernel_rfl
theorem Prog.g_b2a_base64 {g : G} (P : Prog g) : g.glob.lookup (Str.ofString "b2a_base64") = some (.ref 148) := by rw [P.gl]; kernel_rfl
theorem Prog.g_b64encode {g : G} (P : Prog g) : g.glob.lookup (Str.ofString "b64encode") = some (.ref 156) := by rw [P.gl]; kernel_rfl
theorem Prog.g_b64decode {g : G} (P : Prog g) : g.glob.lookup (Str.ofString "b64decode") = some (.ref 164) := by rw [P.gl]; kernel_rfl
theorem Prog.g_parse_varint {g : G} (P : Prog g) : g.glob.lookup (Str.ofString "_parse_varint") = some (.ref 171) := by rw [P.gl]; kernel_rfl
theorem Prog.g_law_ways {g : G} (P : Prog g) : g.glob.lookup (Str.ofString "_law_ways") = some (.ref 176) := by rw [P.gl]; kernel_rfl
theorem Prog.g_law_octets {g : G} (P : Prog g) : g.glob.lookup (Str.ofString "_law_octets") = some (.ref 183) := by rw [P.gl]; kernel_rfl
theorem Prog.g_law_entry {g : G} (P : Prog g) : g.glob.lookup (Str.ofString "_law_entry") = some (.ref 190) := by rw [P.gl]; kernel_rfl
theorem Prog.g_law_label {g : G} (P : Prog g) : g.glob.lookup (Str.ofString "_law_label") = some (.ref 197) := by rw [P.gl]; kernel_rfl
theorem Prog.g_law_sums {g : G} (P : Prog g) : g.glob.lookup (Str.ofString "_law_sums") = some (.ref 202) := by rw [P.gl]; kernel_rfl
theorem Prog.g_law_search {g : G} (P : Prog g) : g.glob.lookup (Str.ofString "_law_search") = some (.ref 207) := by rw [P.gl]; kernel_rfl
theorem Prog.g_law_lengths {g : G} (P : Prog g) : g.glob.lookup (Str.ofString "_law_lengths") = some (.ref 212) := by rw [P.gl]; kernel_rfl
theorem Prog.g_law_hubs {g : G} (P : Prog g) : g.glob.lookup (Str.ofString "_law_hubs") = some (.ref 217) := by rw [P.gl]; kernel_rfl
theorem Prog.g_len {g : G} (P : Prog g) : g.glob.lookup (Str.ofString "len") = some (.builtin "len") := by rw [P.gl]; kernel_rfl
theorem Prog.g_min {g : G} (P : Prog g) : g.glob.lookup (Str.ofString "min") = some (.builtin "min") := by rw [P.gl]; kernel_rfl
theorem Prog.g_sum {g : G} (P : Prog g) : g.glob.lookup (Str.ofString "sum") = some (.builtin "sum") := by rw [P.gl]; kernel_rfl
theorem Prog.g_iter {g : G} (P : Prog g) : g.glob.lookup (Str.ofString "iter") = some (.builtin "iter") := by rw [P.gl]; kernel_rfl
theorem Prog.g_next {g : G} (P : Prog g) : g.glob.lookup (Str.ofString "next") = some (.builtin "next") := by rw [P.gl]; kernel_rfl
theorem Prog.g_isinstance {g : G} (P : Prog g) : g.glob.lookup (Str.ofString "isinstance") = some (.builtin "isinstance") := by rw [P.gl]; kernel_rfl
theorem Prog.g_bytes {g : G} (P : Prog g) : g.glob.lookup (Str.ofString "bytes") = some (.type "bytes") := by rw [P.gl]; kernel_rfl
theorem Prog.g_object {g : G} (P : Prog g) : g.glob.lookup (Str.ofString "object") = some (.type "object") := by rw [P.gl]; kernel_rfl
theorem Prog.g_str {g : G} (P : Prog g) : g.glob.lookup (Str.ofString "str") = some (.type "str") := by rw [P.gl]; kernel_rfl
theorem Prog.g_type {g : G} (P : Prog g) : g.glob.lookup (Str.ofString "type") = some (.type "type") := by rw [P.gl]; kernel_rfl
theorem Prog.g_bool {g : G} (P : Prog g) : g.glob.lookup (Str.ofString "bool") = some (.type "bool") := by rw [P.gl]; kernel_rfl
theorem Prog.g_StopIteration {g : G} (P : Prog g) : g.glob.lookup (Str.ofString "StopIteration") = some (.type "StopIteration") := by rw [P.gl]; kernel_rfl
theorem Prog.g_range {g : G} (P : Prog g) : g.glob.lookup (Str.ofString "range") = some (.type "range") := by rw [P.gl]; kernel_rfl
theorem Prog.g_bytes_types {g : G} (P : Prog g) : g.glob.lookup (Str.ofString "bytes_types") = some (.tup [.type "bytes", .type "bytearray"]) := by rw [P.gl]; kernel_rfl
theorem Prog.g_B64 {g : G} (P : Prog g) : g.glob.lookup (Str.ofString "_B64") = some (.bytes b64tab) := by rw [P.gl]; kernel_rfl
theorem lk_or {x y : Str} {b : Bool} {v : PV} {m : Vars} {r : Option PV} (h : ((x == y) || b) = false) (k : b = false → List.lookup x m = r) : List.lookup x ((y, v) :: m) = r :=
  let ⟨h1, h2⟩ := Bool.or_eq_false_iff.mp h
  lk_skip h1 (k h2)
theorem lk0' {x : Str} {v w : PV} {m : Vars} (h : v = w) : List.lookup x ((x, v) :: m) = some w := by subst h; exact lk_hit
theorem lk1 {x y0 : Str} {v w0 : PV} {m : Vars} (h : ((x == y0) || (false)) = false) : List.lookup x ((y0, w0) :: (x, v) :: m) = some v := lk_or h fun h1 => lk_hit
theorem lk1' {x y0 : Str} {v u w0 : PV} {m : Vars} (h : ((x == y0) || (false)) = false) (e : v = u) : List.lookup x ((y0, w0) :: (x, v) :: m) = some u := by subst e; exact lk1 h
theorem lk2 {x y0 y1 : Str} {v w0 w1 : PV} {m : Vars} (h : ((x == y0) || ((x == y1) || (false))) = false) : List.lookup x ((y0, w0) :: (y1, w1) :: (x, v) :: m) = some v := lk_or h fun h1 => lk_or h1 fun h2 => lk_hit
theorem lk2' {x y0 y1 : Str} {v u w0 w1 : PV} {m : Vars} (h : ((x == y0) || ((x == y1) || (false))) = false) (e : v = u) : List.lookup x ((y0, w0) :: (y1, w1) :: (x, v) :: m) = some u := by subst e; exact lk2 h
theorem lk3 {x y0 y1 y2 : Str} {v w0 w1 w2 : PV} {m : Vars} (h : ((x == y0) || ((x == y1) || ((x == y2) || (false)))) = false) : List.lookup x ((y0, w0) :: (y1, w1) :: (y2, w2) :: (x, v) :: m) = some v := lk_or h fun h1 => lk_or h1 fun h2 => lk_or h2 fun h3 => lk_hit
theorem lk3' {x y0 y1 y2 : Str} {v u w0 w1 w2 : PV} {m : Vars} (h : ((x == y0) || ((x == y1) || ((x == y2) || (false)))) = false) (e : v = u) : List.lookup x ((y0, w0) :: (y1, w1) :: (y2, w2) :: (x, v) :: m) = some u := by subst e; exact lk3 h
theorem lk4 {x y0 y1 y2 y3 : Str} {v w0 w1 w2 w3 : PV} {m : Vars} (h : ((x == y0) || ((x == y1) || ((x == y2) || ((x == y3) || (false))))) = false) : List.lookup x ((y0, w0) :: (y1, w1) :: (y2, w2) :: (y3, w3) :: (x, v) :: m) = some v := lk_or h fun h1 => lk_or h1 fun h2 => lk_or h2 fun h3 => lk_or h3 fun h4 => lk_hit
theorem lk5 {x y0 y1 y2 y3 y4 : Str} {v w0 w1 w2 w3 w4 : PV} {m : Vars} (h : ((x == y0) || ((x == y1) || ((x == y2) || ((x == y3) || ((x == y4) || (false)))))) = false) : List.lookup x ((y0, w0) :: (y1, w1) :: (y2, w2) :: (y3, w3) :: (y4, w4) :: (x, v) :: m) = some v := lk_or h fun h1 => lk_or h1 fun h2 => lk_or h2 fun h3 => lk_or h3 fun h4 => lk_or h4 fun h5 => lk_hit
theorem lk6 {x y0 y1 y2 y3 y4 y5 : Str} {v w0 w1 w2 w3 w4 w5 : PV} {m : Vars} (h : ((x == y0) || ((x == y1) || ((x == y2) || ((x == y3) || ((x == y4) || ((x == y5) || (false))))))) = false) : List.lookup x ((y0, w0) :: (y1, w1) :: (y2, w2) :: (y3, w3) :: (y4, w4) :: (y5, w5) :: (x, v) :: m) = some v := lk_or h fun h1 => lk_or h1 fun h2 => lk_or h2 fun h3 => lk_or h3 fun h4 => lk_or h4 fun h5 => lk_or h5 fun h6 => lk_hit
theorem lk7 {x y0 y1 y2 y3 y4 y5 y6 : Str} {v w0 w1 w2 w3 w4 w5 w6 : PV} {m : Vars} (h : ((x == y0) || ((x == y1) || ((x == y2) || ((x == y3) || ((x == y4) || ((x == y5) || ((x == y6) || (false)))))))) = false) : List.lookup x ((y0, w0) :: (y1, w1) :: (y2, w2) :: (y3, w3) :: (y4, w4) :: (y5, w5) :: (y6, w6) :: (x, v) :: m) = some v := lk_or h fun h1 => lk_or h1 fun h2 => lk_or h2 fun h3 => lk_or h3 fun h4 => lk_or h4 fun h5 => lk_or h5 fun h6 => lk_or h6 fun h7 => lk_hit
theorem lk8 {x y0 y1 y2 y3 y4 y5 y6 y7 : Str} {v w0 w1 w2 w3 w4 w5 w6 w7 : PV} {m : Vars} (h : ((x == y0) || ((x == y1) || ((x == y2) || ((x == y3) || ((x == y4) || ((x == y5) || ((x == y6) || ((x == y7) || (false))))))))) = false) : List.lookup x ((y0, w0) :: (y1, w1) :: (y2, w2) :: (y3, w3) :: (y4, w4) :: (y5, w5) :: (y6, w6) :: (y7, w7) :: (x, v) :: m) = some v := lk_or h fun h1 => lk_or h1 fun h2 => lk_or h2 fun h3 => lk_or h3 fun h4 => lk_or h4 fun h5 => lk_or h5 fun h6 => lk_or h6 fun h7 => lk_or h7 fun h8 => lk_hit
theorem lk9 {x y0 y1 y2 y3 y4 y5 y6 y7 y8 : Str} {v w0 w1 w2 w3 w4 w5 w6 w7 w8 : PV} {m : Vars} (h : ((x == y0) || ((x == y1) || ((x == y2) || ((x == y3) || ((x == y4) || ((x == y5) || ((x == y6) || ((x == y7) || ((x == y8) || (false)))))))))) = false) : List.lookup x ((y0, w0) :: (y1, w1) :: (y2, w2) :: (y3, w3) :: (y4, w4) :: (y5, w5) :: (y6, w6) :: (y7, w7) :: (y8, w8) :: (x, v) :: m) = some v := lk_or h fun h1 => lk_or h1 fun h2 => lk_or h2 fun h3 => lk_or h3 fun h4 => lk_or h4 fun h5 => lk_or h5 fun h6 => lk_or h6 fun h7 => lk_or h7 fun h8 => lk_or h8 fun h9 => lk_hit
theorem lk10 {x y0 y1 y2 y3 y4 y5 y6 y7 y8 y9 : Str} {v w0 w1 w2 w3 w4 w5 w6 w7 w8 w9 : PV} {m : Vars} (h : ((x == y0) || ((x == y1) || ((x == y2) || ((x == y3) || ((x == y4) || ((x == y5) || ((x == y6) || ((x == y7) || ((x == y8) || ((x == y9) || (false))))))))))) = false) : List.lookup x ((y0, w0) :: (y1, w1) :: (y2, w2) :: (y3, w3) :: (y4, w4) :: (y5, w5) :: (y6, w6) :: (y7, w7) :: (y8, w8) :: (y9, w9) :: (x, v) :: m) = some v := lk_or h fun h1 => lk_or h1 fun h2 => lk_or h2 fun h3 => lk_or h3 fun h4 => lk_or h4 fun h5 => lk_or h5 fun h6 => lk_or h6 fun h7 => lk_or h7 fun h8 => lk_or h8 fun h9 => lk_or h9 fun h10 => lk_hit
theorem calls_fnX {g : G} {n : Nat} {a : Addr} {o : Obj} {fd : FuncData} {body : List Stmt} {k : ScopeKind} {nm : List (Str × NameKind)} {b1 b2 : Bool} {mr : List (Str × Const)} {vs : List PV} {kw : List (Str × PV)} {pb : Vars} {H : HF} {Q : PV → HF → Prop} (ho : g.h₀.get? a = some o) (hd : o.data = .func fd) (hbody : fd.body = .stmts body) (hsc : fd.scope = ⟨k, nm, b1, b2, mr⟩) (hok : fnOK ⟨k, nm, b1, b2, mr⟩ pb = true)
    (hclo : fd.closure = []) (hgl : fd.globals = mainGlobals) (hbl : fd.builtins = builtinsNs) (hcd : g.h₀.CodeRec fd.code fd.qualname) (hb : Binds g fd vs kw pb)
    (h : EvSs (fnCx g n ⟨k, nm, b1, b2, mr⟩) body pb H (fun fl _ H' => ∃ H'', H''.Le H' ∧ Q (retV fl) H'')) : Calls g (n + 1) (.ref a) vs kw H Q :=
  calls_fn ho hd hbody (by rw [hsc]; exact hok) hclo hgl hbl hcd hb (by rw [hsc]; exact h)
def ti (l : List Int) : PV := .tup (l.map .int)
end
local macro_rules | `(tactic| walk_at "lk") => `(tactic| (with_reducible first | exact lk_hit | exact lk1 (by kernel_rfl) | exact lk2 (by kernel_rfl) | exact lk3 (by kernel_rfl) | exact lk4 (by kernel_rfl) | exact lk5 (by kernel_rfl) | exact lk6 (by kernel_rfl) | exact lk7 (by kernel_rfl) | exact lk8 (by kernel_rfl) | exact lk9 (by kernel_rfl) | exact lk10 (by kernel_rfl)))
local macro_rules | `(tactic| walk_at "lkv") => `(tactic| ((with_reducible first | exact lk_hit | refine lk0' ?_ | exact lk1 (by kernel_rfl) | refine lk1' (by kernel_rfl) ?_ | exact lk2 (by kernel_rfl) | refine lk2' (by kernel_rfl) ?_ | exact lk3 (by kernel_rfl) | refine lk3' (by kernel_rfl) ?_ | exact lk4 (by kernel_rfl) | exact lk5 (by kernel_rfl) | exact lk6 (by kernel_rfl) | exact lk7 (by kernel_rfl) | exact lk8 (by kernel_rfl) | exact lk9 (by kernel_rfl) | exact lk10 (by kernel_rfl)); (try (first | (with_reducible exact rfl) | exact rfl | (congr 1; omega)))))
local macro_rules | `(tactic| walk_at "ev1") => `(tactic| (first
  | (with_reducible first
    | apply EvSs_cons
    | apply EvSs_nil
    | apply Then_next
    | apply Then_ret
    | apply Then_cont
    | apply Then_brk
    | apply TurnEnd_next
    | apply TurnEnd_cont
    | apply TurnEnd_brk
    | apply Cut_next
    | apply Cut_ret
    | apply EvS_Return
    | apply EvS_Continue
    | apply EvS_Break
    | refine EvS_Expr (by kernel_rfl) ?_
    | apply EvT_Not
    | apply EvT_BoolOp
    | refine EvT_Compare (by kernel_rfl) ?_
    | refine EvT_Compare2 (by kernel_rfl) ?_
    | refine EvT_value (by kernel_rfl) ?_
    | apply EvTs_nilA
    | apply EvTs_consA
    | apply EvTs_consO
    | apply EvL_nil
    | refine EvL_cons (by kernel_rfl) ?_
    | apply EvIfs_nil
    | apply EvIfs_one
    | apply EvK_nil
    | apply EvK_cons
    | apply EvAs_nil
    | refine EvAs_cons (by kernel_rfl) ?_
    | refine EvA_Name (by kernel_rfl) ?_
    | apply EvA_Subscript
    | refine EvA_Tuple (by kernel_rfl) (by with_unfolding_all rfl) ?_
    | apply EvE_int
    | apply EvE_none
    | apply EvE_bool
    | apply EvE_bytes
    | apply EvE_BinOp
    | apply EvE_UnaryOp
    | apply EvE_IfExp
    | apply EvE_Tuple
    | apply EvE_List
    | apply EvE_Slice
    | apply EvO_none
    | apply EvO_some
    | apply EvE_Subscript
    | refine EvE_Call (by kernel_rfl) (by kernel_rfl) ?_
    | refine meth_append (by kernel_rfl) ?_
    | refine meth_pop (by kernel_rfl) ?_
    | refine meth_insert (by kernel_rfl) ?_
    | apply bin_add
    | apply bin_sub
    | apply un_neg
    | apply cmp_lt
    | apply cmp_le
    | apply cmp_gt
    | apply cmp_ge
    | apply cmp_eq
    | apply cmp_ne
    | apply cmp_is_none
    | apply cmp_isnot_none
    | apply cmp_is_type
    | apply tru_bool
    | apply tru_int)
  | ((with_reducible refine EvS_AssignX ?h1 ?h2 ?h3 ?_); (case h1 => exact rfl); (case h2 => exact fun _ _ => by kernel_rfl); (case h3 => exact fun _ _ => by kernel_rfl))
  | ((with_reducible refine' EvS_Aug ?h1 ?h2 ?h3 ?h4 ?_); (case h3 => walk_at "lk"); (case h1 => kernel_rfl); (case h2 => kernel_rfl); (case h4 => kernel_rfl))
  | ((with_reducible refine' EvE_var ?h1 ?h2 ?h3 ?_); (case h2 => walk_at "lk"); (case h1 => kernel_rfl); (case h3 => kernel_rfl))
  | ((with_reducible refine' EvE_glob ?h1 ?h2 ?h3 ?_); (case h2 => walk_at "gl"); (case h1 => kernel_rfl); (case h3 => kernel_rfl))))
local macro_rules | `(tactic| walk_at "ev") => `(tactic| (repeat (walk_at "ev1")))
local macro_rules | `(tactic| walk_at "vle") => `(tactic| (repeat (first | (with_reducible exact Vars.Le.refl _) | (with_reducible exact vle_nil) | ((with_reducible refine vle_cons ?lkh ?_); (case lkh => walk_at "lkv")))))
local macro_rules | `(tactic| walk_at "gl") => `(tactic| (with_reducible first
  | exact Prog.g_heappush (by assumption)
  | exact Prog.g_heappop (by assumption)
  | exact Prog.g_siftdown (by assumption)
  | exact Prog.g_siftup (by assumption)
  | exact Prog.g_nsmallest (by assumption)
  | exact Prog.g_bytes_from_decode_data (by assumption)
  | exact Prog.g_ascii_buffer (by assumption)
  | exact Prog.g_buffer (by assumption)
  | exact Prog.g_truth (by assumption)
  | exact Prog.g_b64_value (by assumption)
  | exact Prog.g_a2b_base64 (by assumption)
  | exact Prog.g_b2a_base64 (by assumption)
  | exact Prog.g_b64encode (by assumption)
  | exact Prog.g_b64decode (by assumption)
  | exact Prog.g_parse_varint (by assumption)
  | exact Prog.g_law_ways (by assumption)
  | exact Prog.g_law_octets (by assumption)
  | exact Prog.g_law_entry (by assumption)
  | exact Prog.g_law_label (by assumption)
  | exact Prog.g_law_sums (by assumption)
  | exact Prog.g_law_search (by assumption)
  | exact Prog.g_law_lengths (by assumption)
  | exact Prog.g_law_hubs (by assumption)
  | exact Prog.g_len (by assumption)
  | exact Prog.g_min (by assumption)
  | exact Prog.g_sum (by assumption)
  | exact Prog.g_iter (by assumption)
  | exact Prog.g_next (by assumption)
  | exact Prog.g_isinstance (by assumption)
  | exact Prog.g_bytes (by assumption)
  | exact Prog.g_object (by assumption)
  | exact Prog.g_str (by assumption)
  | exact Prog.g_type (by assumption)
  | exact Prog.g_bool (by assumption)
  | exact Prog.g_StopIteration (by assumption)
  | exact Prog.g_range (by assumption)
  | exact Prog.g_bytes_types (by assumption)
  | exact Prog.g_B64 (by assumption)))
section
/-! heapq -/
def sdn (xs : List (List Int)) (start pos : Nat) (new : List Int) : List (List Int) :=
  if h : start < pos then
    if lexLt new (xs.getD ((pos - 1) / 2) []) = true then sdn (xs.set pos (xs.getD ((pos - 1) / 2) [])) start ((pos - 1) / 2) new
    else xs.set pos new
  else xs.set pos new
termination_by pos
decreasing_by omega
theorem shr1 (p : Nat) (h : 0 < p) : ((p : Int) - 1).fdiv (2 ^ (1 : Int).toNat) = (((p - 1) / 2 : Nat) : Int) := by
  have e : ((p : Int) - 1) = ((p - 1 : Nat) : Int) := by omega
  rw [e]
  show ((p - 1 : Nat) : Int).fdiv 2 = _
  rw [Int.fdiv_eq_ediv_of_nonneg _ (by decide)]
  omega
theorem getD_ti {xs : List (List Int)} {i : Nat} (h : i < xs.length) : (xs.map ti)[i]? = some (ti (xs.getD i [])) := by
  simp [List.getElem?_map, List.getElem?_eq_getElem h, List.getD]
theorem set_ti {xs : List (List Int)} {i : Nat} {x : List Int} : (xs.map ti).set i (ti x) = (xs.set i x).map ti := by
  simp [List.map_set]
/-- all items as long as each other -/
def Lens (k : Nat) (xs : List (List Int)) : Prop := ∀ x ∈ xs, x.length = k
theorem Lens.getD {k : Nat} {xs : List (List Int)} {i : Nat} (h : Lens k xs) (hi : i < xs.length) : (xs.getD i []).length = k := by
  rw [List.getD_eq_getElem?_getD, List.getElem?_eq_getElem hi]; exact h _ (List.getElem_mem hi)
theorem Lens.set {k : Nat} {xs : List (List Int)} {i : Nat} {x : List Int} (h : Lens k xs) (hx : x.length = k) : Lens k (xs.set i x) := fun y hy => by
  rcases List.mem_or_eq_of_mem_set hy with h1 | rfl
  · exact h y h1
  · exact hx
theorem s_siftdown {g : G} {n k : Nat} (P : Prog g) {a : Addr} {xs : List (List Int)} {start pos : Nat} {H : HF} {Q : PV → HF → Prop} (hH : H a = some (.list (xs.map ti))) (hp : pos < xs.length) (hl : xs.length < 100000) (hk : Lens k xs)
    (h : Q .none (H.set a (.list ((sdn xs start pos (xs.getD pos [])).map ti)))) : Calls g (n + 1) (.ref 56) [.ref a, .int start, .int pos] [] H Q := by
  refine calls_fnX (P.K 56 _ rfl) rfl rfl rfl (by kernel_rfl) rfl rfl rfl ⟨_, _, _, _, rfl, P.K _ _ rfl, rfl, rfl⟩ (binds3 (x := Str.ofString "heap") (y := Str.ofString "startpos") (z := Str.ofString "pos") P.K fun _ _ _ _ => by kernel_rfl) ?_
  walk_at "ev"
  refine sub_listN rfl hH (by omega) (getD_ti (by omega)) ?_
  walk_at "ev"
  refine EvS_While (σ := List (List Int) × Nat) (fun st => [(Str.ofString "heap", .ref a), (Str.ofString "startpos", .int start), (Str.ofString "pos", .int st.2), (Str.ofString "newitem", ti (xs.getD pos []))]) (fun st => H.set a (.list (st.1.map ti)))
    (fun st => st.2 < st.1.length ∧ st.1.length = xs.length ∧ Lens k st.1 ∧ sdn st.1 start st.2 (xs.getD pos []) = sdn xs start pos (xs.getD pos [])) (fun st => st.2) ⟨(xs, pos), ⟨hp, rfl, hk, rfl⟩, ?_, ?_⟩ ?_
  · walk_at "vle"
  · rw [HF.set_eq hH]; exact HF.Le.refl _
  · have hx := hk.getD hp
    rintro ⟨ys, p⟩ ⟨h1, h2, h3, h4⟩
    dsimp only at h1 h2 h3 h4 ⊢
    rw [sdn] at h4
    walk_at "ev"
    refine ⟨fun ht => ?_, fun ht => ?_⟩
    · have ht := of_decide_eq_true ht
      rw [dif_pos (by omega)] at h4
      have hq := h3.getD (i := (p - 1) / 2) (by omega)
      walk_at "ev"
      refine bin_shr (by decide) ?_
      rw [shr1 p (by omega)]
      walk_at "ev"
      refine sub_listN rfl (HF.set_self ..) (by omega) (getD_ti (by omega)) ?_
      walk_at "ev"
      refine EvS_If ?_
      walk_at "ev"
      refine cmp_lt_tup (by omega) ?_
      walk_at "ev"
      refine ⟨fun ht => ?_, fun ht => ?_⟩
      · rw [if_pos ht] at h4
        walk_at "ev"
        refine set_listN (HF.set_self ..) (by simp; omega) (by simp; omega) ?_
        rw [HF.set_set]
        walk_at "ev"
        refine ⟨(ys.set p (ys.getD ((p - 1) / 2) []), (p - 1) / 2), ⟨⟨by simp; omega, by simp; omega, h3.set hq, h4⟩, by simp only; omega⟩, ?_, ?_⟩
        · walk_at "vle"
        · rw [set_ti]; exact HF.Le.refl _
      · rw [if_neg (by rw [ht]; simp)] at h4
        walk_at "ev"
        refine set_listN (HF.set_self ..) (by simp; omega) (by simp; omega) ?_
        rw [HF.set_set, set_ti, h4]
        walk_at "ev"
        exact ⟨_, HF.Le.refl _, h⟩
    · have ht := of_decide_eq_false ht
      rw [dif_neg (by omega)] at h4
      walk_at "ev"
      refine set_listN (HF.set_self ..) (by simp; omega) (by simp; omega) ?_
      rw [HF.set_set, set_ti, h4]
      walk_at "ev"
      exact ⟨_, HF.Le.refl _, h⟩
end
section
def child (xs : List (List Int)) (c : Nat) : Nat :=
  if c + 1 < xs.length ∧ lexLt (xs.getD c []) (xs.getD (c + 1) []) = false then c + 1 else c
theorem child_lt {xs : List (List Int)} {c : Nat} (h : c < xs.length) : child xs c < xs.length ∧ c ≤ child xs c := by
  unfold child; split <;> omega
def sup (xs : List (List Int)) (start pos : Nat) (new : List Int) : List (List Int) :=
  if h : 2 * pos + 1 < xs.length then sup (xs.set pos (xs.getD (child xs (2 * pos + 1)) [])) start (child xs (2 * pos + 1)) new
  else sdn (xs.set pos new) start pos ((xs.set pos new).getD pos [])
termination_by xs.length - pos
decreasing_by
  have := child_lt h
  simp only [List.length_set]
  omega
theorem s_siftup {g : G} {n k : Nat} (P : Prog g) {a : Addr} {xs : List (List Int)} {pos : Nat} {H : HF} {Q : PV → HF → Prop} (hH : H a = some (.list (xs.map ti))) (hp : pos < xs.length) (hl : xs.length < 40000) (hk : Lens k xs)
    (h : Q .none (H.set a (.list ((sup xs pos pos (xs.getD pos [])).map ti)))) : Calls g (n + 2) (.ref 63) [.ref a, .int pos] [] H Q := by
  refine calls_fnX (P.K 63 _ rfl) rfl rfl rfl (by kernel_rfl) rfl rfl rfl ⟨_, _, _, _, rfl, P.K _ _ rfl, rfl, rfl⟩ (binds2 (x := Str.ofString "heap") (y := Str.ofString "pos") P.K fun _ _ _ => by kernel_rfl) ?_
  walk_at "ev"
  refine ⟨trivial, calls_len hH (by simp; omega) ?_⟩
  rw [List.length_map]
  walk_at "ev"
  refine sub_listN rfl hH (by omega) (getD_ti (by omega)) ?_
  walk_at "ev"
  refine bin_mul (by decide) ?_
  walk_at "ev"
  refine EvS_While (σ := List (List Int) × Nat) (fun st => [(Str.ofString "heap", .ref a), (Str.ofString "startpos", .int pos), (Str.ofString "pos", .int st.2), (Str.ofString "newitem", ti (xs.getD pos [])), (Str.ofString "endpos", .int (xs.length : Nat)), (Str.ofString "childpos", .int (2 * (st.2 : Int) + 1))]) (fun st => H.set a (.list (st.1.map ti)))
    (fun st => st.2 < st.1.length ∧ st.1.length = xs.length ∧ Lens k st.1 ∧ sup st.1 pos st.2 (xs.getD pos []) = sup xs pos pos (xs.getD pos [])) (fun st => xs.length - st.2) ⟨(xs, pos), ⟨hp, rfl, hk, rfl⟩, ?_, ?_⟩ ?_
  · walk_at "vle"
  · rw [HF.set_eq hH]; exact HF.Le.refl _
  · have hx := hk.getD hp
    rintro ⟨ys, p⟩ ⟨h1, h2, h3, h4⟩
    dsimp only at h1 h2 h3 h4 ⊢
    rw [sup] at h4
    walk_at "ev"
    refine ⟨fun ht => ?_, fun ht => ?_⟩
    · have ht := of_decide_eq_true ht
      have ht' : 2 * p + 1 < ys.length := by omega
      rw [dif_pos ht'] at h4
      obtain ⟨c1, c2⟩ := child_lt ht'
      have e1 : (2 * (p : Int) + 1) = ((2 * p + 1 : Nat) : Int) := by omega
      have e2 : ((2 * p + 1 : Nat) : Int) + 1 = ((2 * p + 1 + 1 : Nat) : Int) := by omega
      rw [e1]
      walk_at "ev"
      rw [e2]
      refine EvS_cut (σ := Unit) (fun _ => [(Str.ofString "childpos", PV.int (child ys (2 * p + 1) : Nat)), (Str.ofString "heap", .ref a), (Str.ofString "startpos", .int pos), (Str.ofString "pos", .int p), (Str.ofString "newitem", ti (xs.getD pos [])), (Str.ofString "endpos", .int (xs.length : Nat))]) (fun _ => H.set a (.list (ys.map ti))) (fun _ => True) ?_ fun _ _ => ?_
      · refine EvS_If ?_
        walk_at "ev"
        refine ⟨fun hr => ?_, fun hr => ?_⟩
        · have hr := of_decide_eq_true hr
          walk_at "ev"
          refine sub_listN rfl (HF.set_self ..) (by omega) (getD_ti (by omega)) ?_
          walk_at "ev"
          refine sub_listN rfl (HF.set_self ..) (by omega) (getD_ti (by omega)) ?_
          walk_at "ev"
          refine cmp_lt_tup (by rw [h3.getD (by omega), h3.getD (by omega)]) ?_
          walk_at "ev"
          refine ⟨fun hb => ?_, fun hb => ?_⟩
          · walk_at "ev"
            refine ⟨fun _ => ?_, fun q => nomatch q⟩
            walk_at "ev"
            refine ⟨(), trivial, ?_, HF.Le.refl _⟩
            have hc : child ys (2 * p + 1) = 2 * p + 1 + 1 := by unfold child; rw [if_pos ⟨by omega, by simpa using hb⟩]
            rw [hc]
            walk_at "vle"
          · refine ⟨fun q => (nomatch q), fun _ => ?_⟩
            walk_at "ev"
            refine ⟨(), trivial, ?_, HF.Le.refl _⟩
            have hc : child ys (2 * p + 1) = 2 * p + 1 := by unfold child; exact if_neg fun q => by rw [q.2] at hb; cases hb
            rw [hc]
            walk_at "vle"
        · have hr := of_decide_eq_false hr
          refine ⟨fun q => (nomatch q), fun _ => ?_⟩
          walk_at "ev"
          refine ⟨(), trivial, ?_, HF.Le.refl _⟩
          have hc : child ys (2 * p + 1) = 2 * p + 1 := by unfold child; exact if_neg fun q => by omega
          rw [hc]
          walk_at "vle"
      · walk_at "ev"
        refine sub_listN rfl (HF.set_self ..) (by omega) (getD_ti (by omega)) ?_
        walk_at "ev"
        refine set_listN (HF.set_self ..) (by simp; omega) (by simp; omega) ?_
        rw [HF.set_set]
        walk_at "ev"
        refine bin_mul (by decide) ?_
        walk_at "ev"
        refine ⟨(ys.set p (ys.getD (child ys (2 * p + 1)) []), child ys (2 * p + 1)), ⟨⟨by simp; omega, by simp; omega, h3.set (h3.getD (by omega)), h4⟩, by simp only; omega⟩, ?_, ?_⟩
        · walk_at "vle"
        · rw [set_ti]; exact HF.Le.refl _
    · have ht := of_decide_eq_false ht
      rw [dif_neg (by omega)] at h4
      walk_at "ev"
      refine set_listN (HF.set_self ..) (by simp; omega) (by simp; omega) ?_
      rw [HF.set_set, set_ti]
      walk_at "ev"
      refine ⟨⟨_, _, P.K 56 _ rfl, rfl⟩, s_siftdown P (k := k) (HF.set_self ..) (by simp; omega) (by simp; omega) (h3.set hx) ?_⟩
      rw [HF.set_set, h4]
      walk_at "ev"
      exact ⟨_, HF.Le.refl _, h⟩
def hpush (xs : List (List Int)) (x : List Int) : List (List Int) := sdn (xs ++ [x]) 0 xs.length ((xs ++ [x]).getD xs.length [])
theorem s_heappush {g : G} {n k : Nat} (P : Prog g) {a : Addr} {xs : List (List Int)} {x : List Int} {H : HF} {Q : PV → HF → Prop} (hH : H a = some (.list (xs.map ti))) (hl : xs.length < 40000) (hk : Lens k xs) (hx : x.length = k)
    (h : Q .none (H.set a (.list ((hpush xs x).map ti)))) : Calls g (n + 2) (.ref 28) [.ref a, ti x] [] H Q := by
  refine calls_fnX (P.K 28 _ rfl) rfl rfl rfl (by kernel_rfl) rfl rfl rfl ⟨_, _, _, _, rfl, P.K _ _ rfl, rfl, rfl⟩ (binds2 (x := Str.ofString "heap") (y := Str.ofString "item") P.K fun _ _ _ => by kernel_rfl) ?_
  walk_at "ev"
  refine ⟨a, _, rfl, hH, ?_⟩
  walk_at "ev"
  refine calls_append hH (by simp; omega) ?_
  walk_at "ev"
  have e : xs.map ti ++ [ti x] = (xs ++ [x]).map ti := by simp
  rw [e]
  refine ⟨trivial, calls_len (HF.set_self ..) (by simp; omega) ?_⟩
  walk_at "ev"
  have e2 : (((xs ++ [x]).map ti).length : Int) - 1 = ((xs.length : Nat) : Int) := by simp
  rw [e2]
  refine ⟨⟨_, _, P.K 56 _ rfl, rfl⟩, s_siftdown (start := 0) P (k := k) (HF.set_self ..) (by simp) (by simp; omega) (fun y hy => ?_) ?_⟩
  · rcases List.mem_append.mp hy with q | q
    · exact hk y q
    · simp at q; rw [q]; exact hx
  rw [HF.set_set]
  walk_at "ev"
  exact ⟨_, HF.Le.refl _, h⟩
def hpop (xs : List (List Int)) (l : List Int) : List Int × List (List Int) :=
  if xs = [] then (l, []) else (xs.getD 0 [], sup (xs.set 0 l) 0 0 ((xs.set 0 l).getD 0 []))
theorem s_heappop {g : G} {n k : Nat} (P : Prog g) {a : Addr} {xs : List (List Int)} {l : List Int} {H : HF} {Q : PV → HF → Prop} (hH : H a = some (.list ((xs ++ [l]).map ti))) (hl : xs.length < 30000) (hk : Lens k (xs ++ [l]))
    (h : Q (ti (hpop xs l).1) (H.set a (.list ((hpop xs l).2.map ti)))) : Calls g (n + 3) (.ref 35) [.ref a] [] H Q := by
  refine calls_fnX (P.K 35 _ rfl) rfl rfl rfl (by kernel_rfl) rfl rfl rfl ⟨_, _, _, _, rfl, P.K _ _ rfl, rfl, rfl⟩ (binds1 (x := Str.ofString "heap") P.K fun _ _ => by kernel_rfl) ?_
  walk_at "ev"
  refine ⟨a, _, rfl, hH, ?_⟩
  walk_at "ev"
  have e : (xs ++ [l]).map ti = xs.map ti ++ [ti l] := by simp
  rw [e] at hH
  refine calls_pop hH (by simp; omega) ?_
  walk_at "ev"
  refine EvS_If ?_
  walk_at "ev"
  refine tru_list (HF.set_self ..) (by simp; omega) ⟨fun hb => ?_, fun hb => ?_⟩
  · have hne : xs ≠ [] := by rintro rfl; simp at hb
    have hlen : 0 < xs.length := List.length_pos_iff.mpr hne
    unfold hpop at h
    rw [if_neg hne] at h
    walk_at "ev"
    refine sub_listN (k := 0) rfl (HF.set_self ..) (by omega) (getD_ti (by omega)) ?_
    walk_at "ev"
    refine set_listN (k := 0) (HF.set_self ..) (by simp; omega) (by simp; omega) ?_
    rw [HF.set_set, set_ti]
    walk_at "ev"
    refine ⟨⟨_, _, P.K 63 _ rfl, rfl⟩, s_siftup (pos := 0) P (k := k) (HF.set_self ..) (by simp; omega) (by simp; omega) (Lens.set (fun y hy => hk y (List.mem_append_left _ hy)) (hk l (by simp))) ?_⟩
    rw [HF.set_set]
    walk_at "ev"
    exact ⟨_, HF.Le.refl _, h⟩
  · have hne : xs = [] := by cases xs with
      | nil => rfl
      | cons => simp at hb
    unfold hpop at h
    rw [if_pos hne] at h
    subst hne
    walk_at "ev"
    exact ⟨_, HF.Le.refl _, h⟩
end
section
/-! base64 -/
section
variable {g : G} {n : Nat} {H : HF} {Q : PV → HF → Prop}
theorem s_buffer (P : Prog g) {b : List UInt8} (h : Q (.bytes b) H) : Calls g (n + 1) (.ref 118) [.bytes b] [] H Q := by
  refine calls_fnX (P.K 118 _ rfl) rfl rfl rfl (by kernel_rfl) rfl rfl rfl ⟨_, _, _, _, rfl, P.K _ _ rfl, rfl, rfl⟩ (binds1 (x := Str.ofString "data") P.K fun _ _ => by kernel_rfl) ?_
  walk_at "ev"
  refine ⟨trivial, calls_type_bytes ?_⟩
  walk_at "ev"
  refine EvS_If ?_
  walk_at "ev"
  refine ⟨fun _ => ?_, fun q => (nomatch q)⟩
  walk_at "ev"
  exact ⟨_, HF.Le.refl _, h⟩
theorem s_ascii_buffer (P : Prog g) {b : List UInt8} (h : Q (.bytes b) H) : Calls g (n + 1) (.ref 111) [.bytes b] [] H Q := by
  refine calls_fnX (P.K 111 _ rfl) rfl rfl rfl (by kernel_rfl) rfl rfl rfl ⟨_, _, _, _, rfl, P.K _ _ rfl, rfl, rfl⟩ (binds1 (x := Str.ofString "data") P.K fun _ _ => by kernel_rfl) ?_
  walk_at "ev"
  refine ⟨trivial, calls_type_bytes ?_⟩
  walk_at "ev"
  refine EvS_If ?_
  walk_at "ev"
  refine ⟨fun q => (nomatch q), fun _ => ?_⟩
  walk_at "ev"
  refine EvS_If ?_
  walk_at "ev"
  refine ⟨fun _ => ?_, fun q => (nomatch q)⟩
  walk_at "ev"
  exact ⟨_, HF.Le.refl _, h⟩
theorem s_truth (P : Prog g) {b : Bool} (h : Q (.bool b) H) : Calls g (n + 1) (.ref 125) [.bool b] [] H Q := by
  refine calls_fnX (P.K 125 _ rfl) rfl rfl rfl (by kernel_rfl) rfl rfl rfl ⟨_, _, _, _, rfl, P.K _ _ rfl, rfl, rfl⟩ (binds1 (x := Str.ofString "x") P.K fun _ _ => by kernel_rfl) ?_
  walk_at "ev"
  refine ⟨trivial, calls_type_bool ?_⟩
  walk_at "ev"
  refine EvS_If ?_
  walk_at "ev"
  refine ⟨fun q => (nomatch q), fun _ => ?_⟩
  walk_at "ev"
  refine ⟨fun _ => ⟨fun _ => ?_, fun q => (nomatch q)⟩, fun q => (nomatch q)⟩
  walk_at "ev"
  refine ⟨fun q => ?_, fun q => ?_⟩ <;> (walk_at "ev"; subst q; exact ⟨_, HF.Le.refl _, h⟩)
theorem s_from_decode (P : Prog g) {b : List UInt8} (h : Q (.bytes b) H) : Calls g (n + 1) (.ref 91) [.bytes b] [] H Q := by
  refine calls_fnX (P.K 91 _ rfl) rfl rfl rfl (by kernel_rfl) rfl rfl rfl ⟨_, _, _, _, rfl, P.K _ _ rfl, rfl, rfl⟩ (binds1 (x := Str.ofString "s") P.K fun _ _ => by kernel_rfl) ?_
  walk_at "ev"
  refine EvS_If ?_
  walk_at "ev"
  refine ⟨trivial, calls_isi_str ?_⟩
  walk_at "ev"
  refine ⟨fun q => (nomatch q), fun _ => ?_⟩
  walk_at "ev"
  refine EvS_If ?_
  walk_at "ev"
  refine ⟨trivial, calls_isi_bytes ?_⟩
  walk_at "ev"
  refine ⟨fun _ => ?_, fun q => (nomatch q)⟩
  walk_at "ev"
  exact ⟨_, HF.Le.refl _, h⟩
def tv (v : Nat) : Nat := (b64tab.getD v 0).toNat
theorem tv_lt0 : ∀ v < 64, tv v < 256 := by decide +kernel
theorem tv_lt {v : Nat} (h : v < 64) : tv v < 256 := tv_lt0 v h
theorem tvA : ∀ v < 64, 65 ≤ ((tv v : Nat) : Int) → ((tv v : Nat) : Int) ≤ 90 → ((tv v : Nat) : Int) - 65 = v := by decide +kernel
theorem tvB : ∀ v < 64, 97 ≤ ((tv v : Nat) : Int) → ((tv v : Nat) : Int) ≤ 122 → ((tv v : Nat) : Int) - 71 = v := by decide +kernel
theorem tvC : ∀ v < 64, 48 ≤ ((tv v : Nat) : Int) → ((tv v : Nat) : Int) ≤ 57 → ((tv v : Nat) : Int) + 4 = v := by decide +kernel
theorem tvD : ∀ v < 64, ((tv v : Nat) : Int) = 43 → (62 : Int) = v := by decide +kernel
theorem tvE : ∀ v < 64, ((tv v : Nat) : Int) = 47 → (63 : Int) = v := by decide +kernel
theorem tvF : ∀ v < 64, (65 ≤ ((tv v : Nat) : Int) ∧ ((tv v : Nat) : Int) ≤ 90) ∨ (97 ≤ ((tv v : Nat) : Int) ∧ ((tv v : Nat) : Int) ≤ 122) ∨ (48 ≤ ((tv v : Nat) : Int) ∧ ((tv v : Nat) : Int) ≤ 57) ∨ ((tv v : Nat) : Int) = 43 ∨ ((tv v : Nat) : Int) = 47 := by decide +kernel
theorem s_b64_value (P : Prog g) {v : Nat} (hv : v < 64) (h : Q (.int v) H) : Calls g (n + 1) (.ref 132) [.int (tv v : Nat)] [] H Q := by
  refine calls_fnX (P.K 132 _ rfl) rfl rfl rfl (by kernel_rfl) rfl rfl rfl ⟨_, _, _, _, rfl, P.K _ _ rfl, rfl, rfl⟩ (binds1 (x := Str.ofString "c") P.K fun _ _ => by kernel_rfl) ?_
  have fin : ∀ x : Int, x = v → ∃ H'', HF.Le H'' H ∧ Q (retV (.ret (.int x))) H'' := fun x e => ⟨_, HF.Le.refl _, by rw [e]; exact h⟩
  walk_at "ev"
  refine EvS_cut (σ := Unit) (fun _ => [(Str.ofString "c", .int (tv v : Nat))]) (fun _ => H) (fun _ => ¬ (65 ≤ ((tv v : Nat) : Int) ∧ ((tv v : Nat) : Int) ≤ 90)) (EvS_If ?_) fun _ f1 => ?_
  · walk_at "ev"
    refine ⟨fun h1 => ?_, fun h1 => ?_⟩
    · walk_at "ev"
      refine ⟨fun h2 => ?_, fun h2 => ?_⟩
      · have h1 := of_decide_eq_true h1
        have h2 := of_decide_eq_true h2
        walk_at "ev"
        exact fin _ (tvA v hv h1 h2)
      · have h2 := of_decide_eq_false h2
        walk_at "ev"
        exact ⟨(), fun z => h2 z.2, (by walk_at "vle"), HF.Le.refl _⟩
    · have h1 := of_decide_eq_false h1
      refine ⟨fun q => (nomatch q), fun _ => ?_⟩
      walk_at "ev"
      exact ⟨(), fun z => h1 z.1, (by walk_at "vle"), HF.Le.refl _⟩
  walk_at "ev"
  refine EvS_cut (σ := Unit) (fun _ => [(Str.ofString "c", .int (tv v : Nat))]) (fun _ => H) (fun _ => ¬ (97 ≤ ((tv v : Nat) : Int) ∧ ((tv v : Nat) : Int) ≤ 122)) (EvS_If ?_) fun _ f2 => ?_
  · walk_at "ev"
    refine ⟨fun h1 => ?_, fun h1 => ?_⟩
    · walk_at "ev"
      refine ⟨fun h2 => ?_, fun h2 => ?_⟩
      · have h1 := of_decide_eq_true h1
        have h2 := of_decide_eq_true h2
        walk_at "ev"
        exact fin _ (tvB v hv h1 h2)
      · have h2 := of_decide_eq_false h2
        walk_at "ev"
        exact ⟨(), fun z => h2 z.2, (by walk_at "vle"), HF.Le.refl _⟩
    · have h1 := of_decide_eq_false h1
      refine ⟨fun q => (nomatch q), fun _ => ?_⟩
      walk_at "ev"
      exact ⟨(), fun z => h1 z.1, (by walk_at "vle"), HF.Le.refl _⟩
  walk_at "ev"
  refine EvS_cut (σ := Unit) (fun _ => [(Str.ofString "c", .int (tv v : Nat))]) (fun _ => H) (fun _ => ¬ (48 ≤ ((tv v : Nat) : Int) ∧ ((tv v : Nat) : Int) ≤ 57)) (EvS_If ?_) fun _ f3 => ?_
  · walk_at "ev"
    refine ⟨fun h1 => ?_, fun h1 => ?_⟩
    · walk_at "ev"
      refine ⟨fun h2 => ?_, fun h2 => ?_⟩
      · have h1 := of_decide_eq_true h1
        have h2 := of_decide_eq_true h2
        walk_at "ev"
        exact fin _ (tvC v hv h1 h2)
      · have h2 := of_decide_eq_false h2
        walk_at "ev"
        exact ⟨(), fun z => h2 z.2, (by walk_at "vle"), HF.Le.refl _⟩
    · have h1 := of_decide_eq_false h1
      refine ⟨fun q => (nomatch q), fun _ => ?_⟩
      walk_at "ev"
      exact ⟨(), fun z => h1 z.1, (by walk_at "vle"), HF.Le.refl _⟩
  walk_at "ev"
  refine EvS_cut (σ := Unit) (fun _ => [(Str.ofString "c", .int (tv v : Nat))]) (fun _ => H) (fun _ => ¬ ((tv v : Nat) : Int) = 43) (EvS_If ?_) fun _ f4 => ?_
  · walk_at "ev"
    refine ⟨fun h1 => ?_, fun h1 => ?_⟩
    · have h1 : ((tv v : Nat) : Int) = 43 := eq_of_beq h1
      walk_at "ev"
      exact fin _ (tvD v hv h1)
    · have h1 : ¬ ((tv v : Nat) : Int) = 43 := by simpa using h1
      walk_at "ev"
      exact ⟨(), h1, (by walk_at "vle"), HF.Le.refl _⟩
  walk_at "ev"
  refine EvS_cut (σ := Unit) (fun _ => [(Str.ofString "c", .int (tv v : Nat))]) (fun _ => H) (fun _ => ¬ ((tv v : Nat) : Int) = 47) (EvS_If ?_) fun _ f5 => ?_
  · walk_at "ev"
    refine ⟨fun h1 => ?_, fun h1 => ?_⟩
    · have h1 : ((tv v : Nat) : Int) = 47 := eq_of_beq h1
      walk_at "ev"
      exact fin _ (tvE v hv h1)
    · have h1 : ¬ ((tv v : Nat) : Int) = 47 := by simpa using h1
      walk_at "ev"
      exact ⟨(), h1, (by walk_at "vle"), HF.Le.refl _⟩
  rcases tvF v hv with q | q | q | q | q <;> contradiction
end
end
section
section
variable {g : G} {n : Nat} {H : HF} {Q : PV → HF → Prop}
def drain (lc : Nat) (out : List Nat) (lb : Nat) : List Nat × Nat :=
  if h : 6 ≤ lb then drain lc (out ++ [tv (lc / 2 ^ (lb - 6) % 64)]) (lb - 6) else (out, lb)
termination_by lb
def stepB (st : List Nat × Nat × Nat) (b : Nat) : List Nat × Nat × Nat :=
  ((drain ((st.2.2 * 256 + b) % 65536) st.1 (st.2.1 + 8)).1, (drain ((st.2.2 * 256 + b) % 65536) st.1 (st.2.1 + 8)).2, (st.2.2 * 256 + b) % 65536)
def enc : List Nat → List Nat
  | a :: b :: c :: r => tv (a / 4) :: tv (a % 4 * 16 + b / 16) :: tv (b % 16 * 4 + c / 64) :: tv (c % 64) :: enc r
  | _ => []
theorem drain8 (lc : Nat) (out : List Nat) : drain lc out 8 = (out ++ [tv (lc / 4 % 64)], 2) := by
  rw [drain, dif_pos (by omega), drain, dif_neg (by omega)]
theorem drain10 (lc : Nat) (out : List Nat) : drain lc out 10 = (out ++ [tv (lc / 16 % 64)], 4) := by
  rw [drain, dif_pos (by omega), drain, dif_neg (by omega)]
theorem drain12 (lc : Nat) (out : List Nat) : drain lc out 12 = (out ++ [tv (lc / 64 % 64), tv (lc % 64)], 0) := by
  rw [drain, dif_pos (by omega), drain, dif_pos (by omega), drain, dif_neg (by omega)]
  simp
theorem stepB0 (out : List Nat) (lc b : Nat) : stepB (out, 0, lc) b = (out ++ [tv ((lc * 256 + b) % 65536 / 4 % 64)], 2, (lc * 256 + b) % 65536) := by
  unfold stepB; simp only [Nat.zero_add, drain8]
theorem stepB2 (out : List Nat) (lc b : Nat) : stepB (out, 2, lc) b = (out ++ [tv ((lc * 256 + b) % 65536 / 16 % 64)], 4, (lc * 256 + b) % 65536) := by
  unfold stepB; simp only [show 2 + 8 = 10 from rfl, drain10]
theorem stepB4 (out : List Nat) (lc b : Nat) : stepB (out, 4, lc) b = (out ++ [tv ((lc * 256 + b) % 65536 / 64 % 64), tv ((lc * 256 + b) % 65536 % 64)], 0, (lc * 256 + b) % 65536) := by
  unfold stepB; simp only [show 4 + 8 = 12 from rfl, drain12]
theorem lowB {x a : Nat} (h : a < 256) : (x * 256 + a) % 65536 % 256 = a := by omega
theorem highB {x a : Nat} (h : a < 256) : (x * 256 + a) % 65536 / 256 % 4 = x % 4 := by omega
theorem highC {x a : Nat} (h : a < 256) : (x * 256 + a) % 65536 / 256 % 16 = x % 16 := by omega
theorem cutA (y : Nat) : y / 4 % 64 = y % 256 / 4 := by omega
theorem cutB (y : Nat) : y / 16 % 64 = y / 256 % 4 * 16 + y % 256 / 16 := by
  rw [show y / 256 = y / 16 / 16 from (Nat.div_div_eq_div_mul y 16 16).symm, show y % 256 / 16 = y / 16 % 16 from Nat.mod_mul_right_div_self y 16 16]
  generalize y / 16 = u; omega
theorem cutC (y : Nat) : y / 64 % 64 = y / 256 % 16 * 4 + y % 256 / 64 := by
  rw [show y / 256 = y / 64 / 4 from (Nat.div_div_eq_div_mul y 64 4).symm, show y % 256 / 64 = y / 64 % 4 from Nat.mod_mul_right_div_self y 64 4]
  generalize y / 64 = u; omega
theorem cutD (y : Nat) : y % 64 = y % 256 % 64 := by omega
theorem mod4 (y : Nat) : y % 4 = y % 256 % 4 := by omega
theorem mod16 (y : Nat) : y % 16 = y % 256 % 16 := by omega
theorem steps3 {a b c lc : Nat} {out : List Nat} (ha : a < 256) (hb : b < 256) (hc : c < 256) :
    ∃ lc', stepB (stepB (stepB (out, 0, lc) a) b) c = (out ++ [tv (a / 4), tv (a % 4 * 16 + b / 16), tv (b % 16 * 4 + c / 64), tv (c % 64)], 0, lc') := by
  refine ⟨(((lc * 256 + a) % 65536 * 256 + b) % 65536 * 256 + c) % 65536, ?_⟩
  rw [stepB0, stepB2, stepB4, cutA, lowB ha, cutB, lowB hb, highB hb, mod4, lowB ha, cutC, highC hc, lowB hc, mod16, lowB hb, cutD ((((lc * 256 + a) % 65536 * 256 + b) % 65536 * 256 + c) % 65536), lowB hc]
  simp
theorem foldB : ∀ (l : List Nat) (out : List Nat) (lc : Nat), Small l → l.length % 3 = 0 → ∃ lc', l.foldl stepB (out, 0, lc) = (out ++ enc l, 0, lc')
  | [], out, lc, _, _ => ⟨lc, by simp [enc]⟩
  | [_], _, _, _, h => by simp at h
  | [_, _], _, _, _, h => by simp at h
  | a :: b :: c :: r, out, lc, hs, h => by
    obtain ⟨lc1, e1⟩ := steps3 (lc := lc) (out := out) (hs a (by simp)) (hs b (by simp)) (hs c (by simp))
    obtain ⟨lc2, e2⟩ := foldB r (out ++ [tv (a / 4), tv (a % 4 * 16 + b / 16), tv (b % 16 * 4 + c / 64), tv (c % 64)]) lc1 (fun x hx => hs x (by simp [hx])) (by simp at h; omega)
    refine ⟨lc2, ?_⟩
    rw [List.foldl_cons, List.foldl_cons, List.foldl_cons, e1, e2]
    simp [enc]
theorem enc_small : ∀ (l : List Nat), Small l → Small (enc l)
  | a :: b :: c :: r, hs, x, hx => by
    have h1 := hs a (by simp); have h2 := hs b (by simp); have h3 := hs c (by simp)
    simp only [enc, List.mem_cons] at hx
    rcases hx with rfl | rfl | rfl | rfl | hx
    · exact tv_lt (by omega)
    · exact tv_lt (by omega)
    · exact tv_lt (by omega)
    · exact tv_lt (by omega)
    · exact enc_small r (fun x hx => hs x (by simp [hx])) x hx
  | [], _, x, hx => by simp [enc] at hx
  | [_], _, x, hx => by simp [enc] at hx
  | [_, _], _, x, hx => by simp [enc] at hx
theorem enc_len : ∀ (l : List Nat), (enc l).length ≤ 2 * l.length
  | a :: b :: c :: r => by have := enc_len r; simp [enc]; omega
  | [] => by simp [enc]
  | [_] => by simp [enc]
  | [_, _] => by simp [enc]
theorem enc_append : ∀ (l k : List Nat), l.length % 3 = 0 → enc (l ++ k) = enc l ++ enc k
  | [], k, _ => by simp [enc]
  | [_], _, h => by simp at h
  | [_, _], _, h => by simp at h
  | a :: b :: c :: r, k, h => by
    have := enc_append r k (by simp at h; omega)
    simp [enc, this]
theorem drain_len (lc : Nat) (out : List Nat) (lb : Nat) : (drain lc out lb).1.length ≤ out.length + lb ∧ (drain lc out lb).2 < 6 := by
  fun_induction drain lc out lb with
  | case1 out lb h ih => simp at ih; omega
  | case2 out lb h => simp; omega
theorem foldB_len : ∀ (l : List Nat) (out : List Nat) (lb lc : Nat), lb < 6 → lc < 65536 → (l.foldl stepB (out, lb, lc)).1.length ≤ out.length + 14 * l.length ∧ (l.foldl stepB (out, lb, lc)).2.1 < 6 ∧ (l.foldl stepB (out, lb, lc)).2.2 < 65536
  | [], out, lb, lc, h, h' => by simp; exact ⟨h, h'⟩
  | b :: l, out, lb, lc, h, h' => by
    rw [List.foldl_cons]
    obtain ⟨d1, d2⟩ := drain_len ((lc * 256 + b) % 65536) out (lb + 8)
    obtain ⟨i1, i2⟩ := foldB_len l (stepB (out, lb, lc) b).1 (stepB (out, lb, lc) b).2.1 (stepB (out, lb, lc) b).2.2 d2 (show (lc * 256 + b) % 65536 < 65536 by omega)
    refine ⟨?_, i2⟩
    have d1 : (stepB (out, lb, lc) b).1.length ≤ out.length + (lb + 8) := d1
    have i1 : (List.foldl stepB (stepB (out, lb, lc) b) l).1.length ≤ (stepB (out, lb, lc) b).1.length + 14 * l.length := i1
    simp only [List.length_cons]
    omega
theorem take_succ_of {α : Type} {l : List α} {i : Nat} {x : α} (h : l[i]? = some x) : l.take (i + 1) = l.take i ++ [x] := by
  rw [List.take_add_one, h]; rfl
theorem take_all {α : Type} {l : List α} {i : Nat} (h : l.length ≤ i) : l.take i = l := List.take_of_length_le h
theorem s_b2a (P : Prog g) {l : List Nat} (hs : Small l) (hl : l.length % 3 = 0) (hn : l.length ≤ 1000) (h : Q (.bytes (by8 (enc l))) H) : Calls g (n + 2) (.ref 148) [.bytes (by8 l)] [(Str.ofString "newline", .bool false)] H Q := by
  refine calls_fnX (P.K 148 _ rfl) rfl rfl rfl (by kernel_rfl) rfl rfl rfl ⟨_, _, _, _, rfl, P.K _ _ rfl, rfl, rfl⟩ (binds1k (x := Str.ofString "data") (y := Str.ofString "newline") P.K fun _ _ _ => by kernel_rfl) ?_
  walk_at "ev"
  refine ⟨⟨_, _, P.K 118 _ rfl, rfl⟩, s_buffer P ?_⟩
  walk_at "ev"
  refine ⟨⟨_, _, P.K 125 _ rfl, rfl⟩, s_truth P ?_⟩
  walk_at "ev"
  refine ⟨by decide, fun a ha => ?_⟩
  walk_at "ev"
  refine EvS_For (σ := List Nat × Nat × Nat) (fun st => [(Str.ofString "out", .ref a), (Str.ofString "newline", .bool false), (Str.ofString "leftbits", .int st.2.1), (Str.ofString "leftchar", .int st.2.2)]) (fun st => H.set a (.list (ni st.1)))
    (fun i st => st = (l.take i).foldl stepB ([], 0, 0)) rfl ?_
  walk_at "ev"
  refine ⟨.bytes (by8 l), rfl, trivial, ⟨([], 0, 0), rfl, (by walk_at "vle"), HF.Le.refl _⟩, fun i st hS => ⟨trivial, fun x hx => ?_, fun hx => ?_⟩⟩
  · rw [by8_items hs] at hx
    obtain ⟨b, hb, rfl⟩ := ni_get hx
    have hb2 : b < 256 := hs b (List.mem_of_getElem? hb)
    obtain ⟨out, lb, lc⟩ := st
    obtain ⟨k1, k2, k3⟩ := foldB_len (l.take i) [] 0 0 (by decide) (by decide)
    rw [← hS] at k1 k2 k3
    have hl' : (l.take i).length ≤ 1000 := by rw [List.length_take]; omega
    simp only [List.length_nil] at k1 k2 k3
    have hS2 : (l.take (i + 1)).foldl stepB ([], 0, 0) = stepB (out, lb, lc) b := by
      rw [take_succ_of hb, List.foldl_append, ← hS]; rfl
    dsimp only at hS ⊢
    walk_at "ev"
    refine bin_shlN 8 rfl (by omega) (by omega) ?_
    walk_at "ev"
    refine bin_orN 8 hb2 ?_
    walk_at "ev"
    refine bin_mask 16 rfl ?_
    walk_at "ev"
    refine EvS_While (σ := List Nat × Nat) (fun s2 => [(Str.ofString "out", .ref a), (Str.ofString "newline", .bool false), (Str.ofString "leftbits", .int s2.2), (Str.ofString "leftchar", .int ((lc * 2 ^ 8 + b) % 2 ^ 16 : Nat))]) (fun s2 => H.set a (.list (ni s2.1)))
      (fun s2 => drain ((lc * 256 + b) % 65536) s2.1 s2.2 = drain ((lc * 256 + b) % 65536) out (lb + 8) ∧ s2.2 < 15 ∧ s2.1.length + s2.2 ≤ 14 * 1000 + 14) (fun s2 => s2.2) ⟨(out, lb + 8), ⟨rfl, by simp only; omega, by simp only; omega⟩, (by walk_at "vle"), HF.Le.refl _⟩ ?_
    rintro ⟨o2, l2⟩ ⟨j1, j2, j3⟩
    dsimp only at j1 j2 j3 ⊢
    rw [drain] at j1
    walk_at "ev"
    refine ⟨fun ht => ?_, fun ht => ?_⟩
    · have ht := of_decide_eq_true ht
      rw [dif_pos (by omega)] at j1
      walk_at "ev"
      refine ⟨a, _, rfl, HF.set_self .., ?_⟩
      walk_at "ev"
      refine bin_shrN (l2 - 6) (by omega) ?_
      walk_at "ev"
      refine bin_mask 6 rfl ?_
      refine sub_bytesN rfl (by rw [show b64tab.length = 64 from rfl]; omega) (by decide) ?_
      walk_at "ev"
      refine calls_append (HF.set_self ..) (by rw [ni_length]; omega) ?_
      rw [HF.set_set]
      walk_at "ev"
      refine ⟨(o2 ++ [tv ((lc * 256 + b) % 65536 / 2 ^ (l2 - 6) % 64)], l2 - 6), ⟨⟨j1, by simp only; omega, by simp only [List.length_append, List.length_singleton]; omega⟩, by simp only; omega⟩, (by walk_at "vle"), ?_⟩
      rw [ni_append]
      exact HF.Le.refl _
    · have ht := of_decide_eq_false ht
      rw [dif_neg (by omega)] at j1
      walk_at "ev"
      refine ⟨(o2, l2, (lc * 256 + b) % 65536), ?_, (by walk_at "vle"), HF.Le.refl _⟩
      rw [hS2]
      unfold stepB
      simp only [← j1]
  · rw [by8_items hs] at hx
    have hi := ni_get_none hx
    rw [take_all hi] at hS
    obtain ⟨lc, e⟩ := foldB l [] 0 hs hl
    rw [e] at hS
    subst hS
    dsimp only
    walk_at "ev"
    refine EvS_If ?_
    walk_at "ev"
    refine ⟨fun q => (nomatch q), fun _ => ?_⟩
    walk_at "ev"
    refine EvS_If ?_
    walk_at "ev"
    refine ⟨fun q => (nomatch q), fun _ => ?_⟩
    walk_at "ev"
    refine EvS_If ?_
    walk_at "ev"
    refine ⟨fun q => (nomatch q), fun _ => ?_⟩
    walk_at "ev"
    refine ⟨trivial, calls_bytesN (HF.set_self ..) (enc_small l hs) ?_ ?_⟩
    · have := enc_len l; simp; omega
    walk_at "ev"
    exact ⟨H, HF.Le.new ha (HF.Le.refl _), h⟩
theorem s_b64encode (P : Prog g) {l : List Nat} (hs : Small l) (hl : l.length % 3 = 0) (hn : l.length ≤ 1000) (h : Q (.bytes (by8 (enc l))) H) : Calls g (n + 3) (.ref 156) [.bytes (by8 l)] [] H Q := by
  refine calls_fnX (P.K 156 _ rfl) rfl rfl rfl (by kernel_rfl) rfl rfl rfl ⟨_, _, _, _, rfl, P.K _ _ rfl, rfl, rfl⟩ (binds1n (x := Str.ofString "s") (y := Str.ofString "altchars") (z := Str.ofString "s") P.K fun _ _ => by kernel_rfl) ?_
  walk_at "ev"
  refine ⟨⟨_, _, P.K 148 _ rfl, rfl⟩, s_b2a P hs hl hn ?_⟩
  walk_at "ev"
  refine EvS_If ?_
  walk_at "ev"
  refine ⟨fun q => (nomatch q), fun _ => ?_⟩
  walk_at "ev"
  exact ⟨_, HF.Le.refl _, h⟩
end
end
section
section
variable {g : G} {n : Nat} {H : HF} {Q : PV → HF → Prop}
def stepA (st : List Nat × Nat × Nat) (v : Nat) : List Nat × Nat × Nat :=
  if st.2.1 = 0 then (st.1, 1, v)
  else if st.2.1 = 1 then (st.1 ++ [st.2.2 * 4 + v / 16], 2, v % 16)
  else if st.2.1 = 2 then (st.1 ++ [st.2.2 * 16 + v / 4], 3, v % 4)
  else (st.1 ++ [st.2.2 * 64 + v], 0, 0)
/-- in six bits -/
def six : List Nat → List Nat
  | a :: b :: c :: r => (a / 4) :: (a % 4 * 16 + b / 16) :: (b % 16 * 4 + c / 64) :: (c % 64) :: six r
  | _ => []
theorem enc_six : ∀ l : List Nat, enc l = (six l).map tv
  | a :: b :: c :: r => by simp [enc, six, enc_six r]
  | [] => rfl
  | [_] => rfl
  | [_, _] => rfl
theorem six_small : ∀ (l : List Nat), Small l → ∀ x ∈ six l, x < 64
  | a :: b :: c :: r, hs, x, hx => by
    have h1 := hs a (by simp); have h2 := hs b (by simp); have h3 := hs c (by simp)
    simp only [six, List.mem_cons] at hx
    rcases hx with rfl | rfl | rfl | rfl | hx
    · omega
    · omega
    · omega
    · omega
    · exact six_small r (fun x hx => hs x (by simp [hx])) x hx
  | [], _, x, hx => by simp [six] at hx
  | [_], _, x, hx => by simp [six] at hx
  | [_, _], _, x, hx => by simp [six] at hx
theorem foldA : ∀ (l : List Nat) (out : List Nat), Small l → l.length % 3 = 0 → (six l).foldl stepA (out, 0, 0) = (out ++ l, 0, 0)
  | [], out, _, _ => by simp [six]
  | [_], _, _, h => by simp at h
  | [_, _], _, _, h => by simp at h
  | a :: b :: c :: r, out, hs, h => by
    have h1 := hs a (by simp); have h2 := hs b (by simp); have h3 := hs c (by simp)
    have ih := foldA r (out ++ [a, b, c]) (fun x hx => hs x (by simp [hx])) (by simp at h; omega)
    have e : (six (a :: b :: c :: r)) = (a / 4) :: (a % 4 * 16 + b / 16) :: (b % 16 * 4 + c / 64) :: (c % 64) :: six r := rfl
    rw [e, List.foldl_cons, List.foldl_cons, List.foldl_cons, List.foldl_cons]
    have s1 : stepA (out, 0, 0) (a / 4) = (out, 1, a / 4) := rfl
    have s2 : ∀ v, stepA (out, 1, a / 4) v = (out ++ [a / 4 * 4 + v / 16], 2, v % 16) := fun v => rfl
    have s3 : ∀ o u v, stepA (o, 2, u) v = (o ++ [u * 16 + v / 4], 3, v % 4) := fun o u v => rfl
    have s4 : ∀ o u v, stepA (o, 3, u) v = (o ++ [u * 64 + v], 0, 0) := fun o u v => rfl
    rw [s1, s2, s3, s4]
    have x1 : a / 4 * 4 + (a % 4 * 16 + b / 16) / 16 = a := by omega
    have x2 : (a % 4 * 16 + b / 16) % 16 * 16 + (b % 16 * 4 + c / 64) / 4 = b := by omega
    have x3 : (b % 16 * 4 + c / 64) % 4 * 64 + c % 64 = c := by omega
    rw [x1, x2, x3]
    have y : out ++ [a] ++ [b] ++ [c] = out ++ [a, b, c] := by simp
    rw [y, ih]
    simp
theorem stepA_ok (out : List Nat) (q lc v : Nat) (h : q < 4) (h2 : lc < 64) (hv : v < 64) : (stepA (out, q, lc) v).2.1 < 4 ∧ (stepA (out, q, lc) v).2.2 < 64 ∧ (stepA (out, q, lc) v).1.length ≤ out.length + 1 := by
  unfold stepA
  simp only
  repeat' split
  all_goals simp
  all_goals omega
theorem foldA_ok : ∀ (l : List Nat) (out : List Nat) (q lc : Nat), q < 4 → lc < 64 → (∀ x ∈ l, x < 64) → (l.foldl stepA (out, q, lc)).2.1 < 4 ∧ (l.foldl stepA (out, q, lc)).2.2 < 64 ∧ (l.foldl stepA (out, q, lc)).1.length ≤ out.length + l.length
  | [], out, q, lc, h, h', _ => by simp; exact ⟨h, h'⟩
  | v :: l, out, q, lc, h, h', hl => by
    obtain ⟨a, b, c⟩ := stepA_ok out q lc v h h' (hl v (by simp))
    obtain ⟨i1, i2, i3⟩ := foldA_ok l (stepA (out, q, lc) v).1 (stepA (out, q, lc) v).2.1 (stepA (out, q, lc) v).2.2 a b fun x hx => hl x (by simp [hx])
    rw [List.foldl_cons]
    refine ⟨i1, i2, ?_⟩
    have i3 : (List.foldl stepA (stepA (out, q, lc) v) l).1.length ≤ (stepA (out, q, lc) v).1.length + l.length := i3
    simp only [List.length_cons]
    omega
theorem six_len : ∀ (l : List Nat), (six l).length ≤ 2 * l.length
  | a :: b :: c :: r => by have := six_len r; simp [six]; omega
  | [] => by simp [six]
  | [_] => by simp [six]
  | [_, _] => by simp [six]
theorem tv_small {l : List Nat} (h : ∀ x ∈ l, x < 64) : Small (l.map tv) := fun x hx => by
  obtain ⟨y, hy, rfl⟩ := List.mem_map.mp hx
  exact tv_lt (h y hy)
theorem tv_ne61_0 : ∀ v < 64, tv v ≠ 61 := by decide +kernel
theorem tv_ne61 {v : Nat} (h : v < 64) : tv v ≠ 61 := tv_ne61_0 v h
theorem s_a2b (P : Prog g) {l : List Nat} (hs : Small l) (hl : l.length % 3 = 0) (hn : l.length ≤ 40000) (h : Q (.bytes (by8 l)) H) : Calls g (n + 2) (.ref 140) [.bytes (by8 (enc l))] [(Str.ofString "strict_mode", .bool false)] H Q := by
  refine calls_fnX (P.K 140 _ rfl) rfl rfl rfl (by kernel_rfl) rfl rfl rfl ⟨_, _, _, _, rfl, P.K _ _ rfl, rfl, rfl⟩ (binds1k (x := Str.ofString "data") (y := Str.ofString "strict_mode") P.K fun _ _ _ => by kernel_rfl) ?_
  walk_at "ev"
  refine ⟨⟨_, _, P.K 111 _ rfl, rfl⟩, s_ascii_buffer P ?_⟩
  walk_at "ev"
  refine ⟨⟨_, _, P.K 125 _ rfl, rfl⟩, s_truth P ?_⟩
  walk_at "ev"
  refine ⟨by decide, fun a ha => ?_⟩
  walk_at "ev"
  have hx6 := six_small l hs
  have hlen := six_len l
  rw [enc_six]
  refine EvS_For (σ := (List Nat × Nat × Nat) × Nat) (fun st => [(Str.ofString "out", .ref a), (Str.ofString "strict_mode", .bool false), (Str.ofString "quad_pos", .int st.1.2.1), (Str.ofString "leftchar", .int st.1.2.2), (Str.ofString "pads", .int 0), (Str.ofString "i", .int st.2)]) (fun st => H.set a (.list (ni st.1.1)))
    (fun i st => st.1 = ((six l).take i).foldl stepA ([], 0, 0) ∧ st.2 = i) rfl ?_
  walk_at "ev"
  refine ⟨.bytes (by8 ((six l).map tv)), rfl, trivial, ⟨(([], 0, 0), 0), ⟨rfl, rfl⟩, (by walk_at "vle"), HF.Le.refl _⟩, fun i st hS => ⟨trivial, fun x hx => ?_, fun hx => ?_⟩⟩
  · rw [by8_items (tv_small hx6)] at hx
    obtain ⟨b, hb, rfl⟩ := ni_get hx
    rw [List.getElem?_map] at hb
    obtain ⟨v, hv, rfl⟩ := Option.map_eq_some_iff.mp hb
    have hv64 : v < 64 := hx6 v (List.mem_of_getElem? hv)
    have hne := tv_ne61 hv64
    obtain ⟨⟨out, q, lc⟩, j⟩ := st
    obtain ⟨hS, hj⟩ := hS
    dsimp only at hS hj
    obtain ⟨k1, k2, k3⟩ := foldA_ok ((six l).take i) [] 0 0 (by decide) (by decide) fun x hx => hx6 x (List.mem_of_mem_take hx)
    rw [← hS] at k1 k2 k3
    simp only [List.length_nil, Nat.zero_add, List.length_take] at k1 k2 k3
    have hS2 : ((six l).take (i + 1)).foldl stepA ([], 0, 0) = stepA (out, q, lc) v := by
      rw [take_succ_of hv, List.foldl_append, ← hS]; rfl
    have hlo : out.length < 100000 := by omega
    dsimp only
    walk_at "ev"
    refine EvS_If ?_
    walk_at "ev"
    refine ⟨fun q => absurd (eq_of_beq q) (by omega), fun _ => ?_⟩
    walk_at "ev"
    refine ⟨⟨_, _, P.K 132 _ rfl, rfl⟩, s_b64_value P hv64 ?_⟩
    walk_at "ev"
    refine EvS_If ?_
    walk_at "ev"
    refine ⟨fun q => absurd (of_decide_eq_true q) (by omega), fun _ => ?_⟩
    walk_at "ev"
    refine EvS_If ?_
    walk_at "ev"
    refine ⟨fun q => (nomatch q), fun _ => ⟨fun q => (nomatch q), fun _ => ?_⟩⟩
    walk_at "ev"
    refine EvS_cut (σ := Unit) (fun _ => [(Str.ofString "out", .ref a), (Str.ofString "strict_mode", .bool false), (Str.ofString "quad_pos", .int (stepA (out, q, lc) v).2.1), (Str.ofString "leftchar", .int (stepA (out, q, lc) v).2.2), (Str.ofString "pads", .int 0), (Str.ofString "i", .int j)]) (fun _ => H.set a (.list (ni (stepA (out, q, lc) v).1))) (fun _ => True) ?_ fun _ _ => ?_
    · refine EvS_If ?_
      walk_at "ev"
      refine ⟨fun h0 => ?_, fun h0 => ?_⟩
      · have h0 : (q : Int) = 0 := eq_of_beq h0
        have e : stepA (out, q, lc) v = (out, 1, v) := by unfold stepA; exact if_pos (by simp only; omega)
        rw [e]
        walk_at "ev"
        exact ⟨(), trivial, (by walk_at "vle"), HF.Le.refl _⟩
      have h0 : (q : Int) ≠ 0 := by simpa using h0
      walk_at "ev"
      refine EvS_If ?_
      walk_at "ev"
      refine ⟨fun h1 => ?_, fun h1 => ?_⟩
      · have h1 : (q : Int) = 1 := eq_of_beq h1
        have hq : q = 1 := by omega
        subst hq
        have e : stepA (out, 1, lc) v = (out ++ [lc * 2 ^ 2 + v / 2 ^ 4], 2, v % 2 ^ 4) := rfl
        rw [e]
        walk_at "ev"
        refine ⟨a, _, rfl, HF.set_self .., ?_⟩
        walk_at "ev"
        refine bin_shlN 2 rfl (by omega) (by omega) ?_
        walk_at "ev"
        refine bin_shrN 4 rfl ?_
        refine bin_orN 2 (by omega) ?_
        walk_at "ev"
        refine calls_append (HF.set_self ..) (by rw [ni_length]; omega) ?_
        rw [HF.set_set]
        walk_at "ev"
        refine bin_mask 4 rfl ?_
        walk_at "ev"
        refine ⟨(), trivial, (by walk_at "vle"), ?_⟩
        rw [ni_append]
        exact HF.Le.refl _
      have h1 : (q : Int) ≠ 1 := by simpa using h1
      walk_at "ev"
      refine EvS_If ?_
      walk_at "ev"
      refine ⟨fun h2 => ?_, fun h2 => ?_⟩
      · have h2 : (q : Int) = 2 := eq_of_beq h2
        have hq : q = 2 := by omega
        subst hq
        have e : stepA (out, 2, lc) v = (out ++ [lc * 2 ^ 4 + v / 2 ^ 2], 3, v % 2 ^ 2) := rfl
        rw [e]
        walk_at "ev"
        refine ⟨a, _, rfl, HF.set_self .., ?_⟩
        walk_at "ev"
        refine bin_shlN 4 rfl (by omega) (by omega) ?_
        walk_at "ev"
        refine bin_shrN 2 rfl ?_
        refine bin_orN 4 (by omega) ?_
        walk_at "ev"
        refine calls_append (HF.set_self ..) (by rw [ni_length]; omega) ?_
        rw [HF.set_set]
        walk_at "ev"
        refine bin_mask 2 rfl ?_
        walk_at "ev"
        refine ⟨(), trivial, (by walk_at "vle"), ?_⟩
        rw [ni_append]
        exact HF.Le.refl _
      · have h2 : (q : Int) ≠ 2 := by simpa using h2
        have hq : q = 3 := by omega
        subst hq
        have e : stepA (out, 3, lc) v = (out ++ [lc * 2 ^ 6 + v], 0, 0) := rfl
        rw [e]
        walk_at "ev"
        refine ⟨a, _, rfl, HF.set_self .., ?_⟩
        walk_at "ev"
        refine bin_shlN 6 rfl (by omega) (by omega) ?_
        walk_at "ev"
        refine bin_orN 6 (by omega) ?_
        walk_at "ev"
        refine calls_append (HF.set_self ..) (by rw [ni_length]; omega) ?_
        rw [HF.set_set]
        walk_at "ev"
        refine ⟨(), trivial, (by walk_at "vle"), ?_⟩
        rw [ni_append]
        exact HF.Le.refl _
    · walk_at "ev"
      exact ⟨(stepA (out, q, lc) v, j + 1), ⟨hS2.symm, by simp only; omega⟩, (by walk_at "vle"), HF.Le.refl _⟩
  · rw [by8_items (tv_small hx6)] at hx
    have hi := ni_get_none hx
    rw [List.length_map] at hi
    obtain ⟨st, j⟩ := st
    obtain ⟨hS, hj⟩ := hS
    rw [take_all hi] at hS
    dsimp only at hS
    rw [foldA l [] hs hl, List.nil_append] at hS
    subst hS
    dsimp only
    walk_at "ev"
    refine EvS_If ?_
    walk_at "ev"
    refine ⟨fun q => (nomatch q), fun _ => ?_⟩
    walk_at "ev"
    refine EvS_If ?_
    walk_at "ev"
    refine ⟨fun q => (nomatch q), fun _ => ⟨fun q => (nomatch q), fun _ => ?_⟩⟩
    walk_at "ev"
    refine ⟨trivial, calls_bytesN (HF.set_self ..) hs (by omega) ?_⟩
    walk_at "ev"
    exact ⟨H, HF.Le.new ha (HF.Le.refl _), h⟩
theorem s_b64decode (P : Prog g) {l : List Nat} (hs : Small l) (hl : l.length % 3 = 0) (hn : l.length ≤ 40000) (h : Q (.bytes (by8 l)) H) : Calls g (n + 3) (.ref 164) [.bytes (by8 (enc l))] [] H Q := by
  refine calls_fnX (P.K 164 _ rfl) rfl rfl rfl (by kernel_rfl) rfl rfl rfl ⟨_, _, _, _, rfl, P.K _ _ rfl, rfl, rfl⟩ (binds1nb (x := Str.ofString "s") (y := Str.ofString "altchars") (z := Str.ofString "validate") (b := false) P.K fun _ _ => by kernel_rfl) ?_
  walk_at "ev"
  refine ⟨⟨_, _, P.K 91 _ rfl, rfl⟩, s_from_decode P ?_⟩
  walk_at "ev"
  refine EvS_If ?_
  walk_at "ev"
  refine ⟨fun q => (nomatch q), fun _ => ?_⟩
  walk_at "ev"
  refine ⟨⟨_, _, P.K 140 _ rfl, rfl⟩, s_a2b P hs hl hn ?_⟩
  walk_at "ev"
  exact ⟨_, HF.Le.refl _, h⟩
end
end
section
/-! numbers in octets -/
def octGo (acc : List Nat) (n : Nat) : List Nat := if h : 63 < n then octGo ((n / 64 % 64 + 64) :: acc) (n / 64) else acc
termination_by n
decreasing_by omega
def octs (n : Nat) : List Nat := octGo [n % 64] n
def hb (m : Nat) : List Nat := if h : 63 < m then hb (m / 64) ++ [m % 64 + 64] else [m % 64 + 64]
termination_by m
decreasing_by omega
theorem octGo_eq : ∀ (acc : List Nat) (n : Nat), octGo acc n = (if 63 < n then hb (n / 64) else []) ++ acc := by
  intro acc n
  fun_induction octGo acc n with
  | case1 acc n h ih =>
    rw [ih, if_pos h]
    conv => rhs; rw [hb]
    by_cases h2 : 63 < n / 64
    · rw [if_pos h2, dif_pos h2]; simp
    · rw [if_neg h2, dif_neg h2]; simp
  | case2 acc n h => rw [if_neg h]; rfl
theorem octs_eq (n : Nat) : octs n = (if 63 < n then hb (n / 64) else []) ++ [n % 64] := octGo_eq _ _
theorem hb_oct : ∀ m, ∀ x ∈ hb m, x < 128 := by
  intro m
  fun_induction hb m with
  | case1 m h ih => intro x hx; rw [List.mem_append] at hx; rcases hx with hx | hx; exact ih x hx; simp at hx; omega
  | case2 m h => intro x hx; simp at hx; omega
theorem octs_oct (n : Nat) : ∀ x ∈ octs n, x < 128 := by
  intro x hx
  rw [octs_eq, List.mem_append] at hx
  rcases hx with hx | hx
  · split at hx
    · exact hb_oct _ x hx
    · cases hx
  · simp at hx; omega
theorem hb_len : ∀ m, (hb m).length ≤ m + 1 := by
  intro m
  fun_induction hb m with
  | case1 m h ih => rw [List.length_append]; simp; omega
  | case2 m h => simp
theorem octs_len (n : Nat) : (octs n).length ≤ n + 2 := by
  rw [octs_eq, List.length_append]
  split
  · have := hb_len (n / 64); simp; omega
  · simp
def pvS (val b : Nat) : List Nat → Option (Nat × List Nat)
  | [] => if 64 ≤ b then none else some (val, [])
  | c :: r => if 64 ≤ b then (if val < 2 ^ 40 then pvS (val * 64 + c % 64) c r else none) else some (val, c :: r)
theorem pvS_hb : ∀ (m : Nat) (b : Nat) (rest : List Nat), 64 ≤ b → m < 2 ^ 40 → ∃ b', 64 ≤ b' ∧ pvS 0 b (hb m ++ rest) = pvS m b' rest := by
  intro m
  fun_induction hb m with
  | case1 m h ih =>
    intro b rest hb0 hm
    obtain ⟨b', h1, h2⟩ := ih b ([m % 64 + 64] ++ rest) hb0 (by omega)
    refine ⟨m % 64 + 64, by omega, ?_⟩
    rw [List.append_assoc, h2]
    show pvS (m / 64) b' ((m % 64 + 64) :: rest) = _
    rw [pvS, if_pos h1, if_pos (by omega)]
    congr 1
    omega
  | case2 m h =>
    intro b rest hb0 hm
    refine ⟨m % 64 + 64, by omega, ?_⟩
    show pvS 0 b ((m % 64 + 64) :: rest) = _
    rw [pvS, if_pos hb0, if_pos (by decide)]
    congr 1
    omega
theorem pvS_octs (n : Nat) (rest : List Nat) (h : n < 2 ^ 40) : pvS 0 64 (octs n ++ rest) = some (n, rest) := by
  rw [octs_eq]
  split
  · obtain ⟨b', h1, h2⟩ := pvS_hb (n / 64) 64 ([n % 64] ++ rest) (by decide) (by omega)
    rw [List.append_assoc, h2]
    show pvS (n / 64) b' ((n % 64) :: rest) = _
    rw [pvS, if_pos h1, if_pos (by omega)]
    have e : n / 64 * 64 + n % 64 % 64 = n := by omega
    rw [e]
    cases rest <;> (rw [pvS, if_neg (by omega)])
  · show pvS 0 64 ((n % 64) :: rest) = _
    rw [pvS, if_pos (by decide), if_pos (by decide)]
    have e : 0 * 64 + n % 64 % 64 = n := by omega
    rw [e]
    cases rest <;> (rw [pvS, if_neg (by omega)])
theorem pvS_pad (k : Nat) (rest : List Nat) : pvS 0 64 (List.replicate k 64 ++ rest) = pvS 0 64 rest := by
  induction k with
  | zero => rfl
  | succ k ih => rw [List.replicate_succ, List.cons_append, pvS, if_pos (by decide), if_pos (by decide)]; exact ih
def entB (p : Nat × Nat) : List Nat := List.replicate ((3 - (octs p.1 ++ octs p.2).length % 3) % 3) 64 ++ (octs p.1 ++ octs p.2)
def labT (ps : List (Nat × Nat)) : List Nat := ps.flatMap entB
theorem entB_len3 (p : Nat × Nat) : (entB p).length % 3 = 0 := by
  unfold entB
  rw [List.length_append, List.length_replicate]
  omega
theorem entB_oct (p : Nat × Nat) : ∀ x ∈ entB p, x < 128 := by
  intro x hx
  unfold entB at hx
  rw [List.mem_append, List.mem_append] at hx
  rcases hx with hx | hx | hx
  · rw [(List.mem_replicate.mp hx).2]; decide
  · exact octs_oct _ x hx
  · exact octs_oct _ x hx
theorem labT_oct (ps : List (Nat × Nat)) : ∀ x ∈ labT ps, x < 128 := fun x hx => by
  obtain ⟨p, _, h⟩ := List.mem_flatMap.mp hx
  exact entB_oct p x h
theorem labT_len3 : ∀ ps : List (Nat × Nat), (labT ps).length % 3 = 0
  | [] => rfl
  | p :: ps => by
    have := labT_len3 ps
    have h := entB_len3 p
    show (entB p ++ labT ps).length % 3 = 0
    rw [List.length_append]; omega
theorem labT_append (ps qs : List (Nat × Nat)) : labT (ps ++ qs) = labT ps ++ labT qs := by simp [labT]
theorem parse_ent (p : Nat × Nat) (rest : List Nat) (h1 : p.1 < 2 ^ 40) : pvS 0 64 (entB p ++ rest) = some (p.1, octs p.2 ++ rest) := by
  unfold entB
  rw [List.append_assoc, pvS_pad, List.append_assoc, pvS_octs _ _ h1]
section
variable {g : G} {n : Nat} {H : HF} {Q : PV → HF → Prop}
theorem s_octets (P : Prog g) {x : Nat} (hx : x < 90000) (h : ∀ a, H a = none → Q (.ref a) (H.set a (.list (ni (octs x))))) : Calls g (n + 1) (.ref 183) [.int x] [] H Q := by
  refine calls_fnX (P.K 183 _ rfl) rfl rfl rfl (by kernel_rfl) rfl rfl rfl ⟨_, _, _, _, rfl, P.K _ _ rfl, rfl, rfl⟩ (binds1 (x := Str.ofString "number") P.K fun _ _ => by kernel_rfl) ?_
  walk_at "ev"
  refine bin_modN (b := 64) rfl (by decide) ?_
  walk_at "ev"
  refine ⟨by simp, fun a ha => ?_⟩
  walk_at "ev"
  refine EvS_While (σ := List Nat × Nat) (fun st => [(Str.ofString "octets", .ref a), (Str.ofString "number", .int st.2)]) (fun st => H.set a (.list (ni st.1)))
    (fun st => octGo st.1 st.2 = octs x ∧ st.1.length + st.2 ≤ x + 1) (fun st => st.2) ⟨([x % 64], x), ⟨rfl, by simp only [List.length_singleton]; omega⟩, (by walk_at "vle"), HF.Le.refl _⟩ ?_
  rintro ⟨acc, k⟩ ⟨h1, h2⟩
  dsimp only at h1 h2 ⊢
  rw [octGo] at h1
  walk_at "ev"
  refine ⟨fun ht => ?_, fun ht => ?_⟩
  · have ht := of_decide_eq_true ht
    rw [dif_pos (by omega)] at h1
    walk_at "ev"
    refine bin_divN (b := 64) rfl (by decide) (by decide) ?_
    walk_at "ev"
    refine ⟨a, _, rfl, HF.set_self .., ?_⟩
    walk_at "ev"
    refine bin_modN (b := 64) rfl (by decide) ?_
    walk_at "ev1"
    refine bin_addN (b := 64) rfl ?_
    walk_at "ev"
    refine calls_insert0 (HF.set_self ..) (by rw [ni_length]; omega) ?_
    rw [HF.set_set]
    walk_at "ev"
    exact ⟨((k / 64 % 64 + 64) :: acc, k / 64), ⟨⟨h1, by simp only [List.length_cons]; omega⟩, by simp only; omega⟩, (by walk_at "vle"), HF.Le.refl _⟩
  · have ht := of_decide_eq_false ht
    rw [dif_neg (by omega)] at h1
    subst h1
    walk_at "ev"
    exact ⟨_, HF.Le.refl _, h a ha⟩
theorem s_entry (P : Prog g) {x y : Nat} (hx : x < 40000) (hy : y < 40000) (hl : (entB (x, y)).length ≤ 1000) (h : Q (.bytes (by8 (enc (entB (x, y))))) H) : Calls g (n + 4) (.ref 190) [.int x, .int y] [] H Q := by
  refine calls_fnX (P.K 190 _ rfl) rfl rfl rfl (by kernel_rfl) rfl rfl rfl ⟨_, _, _, _, rfl, P.K _ _ rfl, rfl, rfl⟩ (binds2 (x := Str.ofString "hub") (y := Str.ofString "far") P.K fun _ _ _ => by kernel_rfl) ?_
  have l1 := octs_len x
  have l2 := octs_len y
  walk_at "ev"
  refine ⟨⟨_, _, P.K 183 _ rfl, rfl⟩, s_octets P (by omega) fun a ha => ?_⟩
  walk_at "ev"
  refine ⟨⟨_, _, P.K 183 _ rfl, rfl⟩, s_octets P (by omega) fun b hb => ?_⟩
  have hab : a ≠ b := fun q => by subst q; rw [HF.set_self] at hb; cases hb
  refine bin_addL (xs := ni (octs x)) (ys := ni (octs y)) (by rw [HF.set_other hab, HF.set_self]) (HF.set_self ..) (by rw [ni_length, ni_length]; omega) fun d hd => ?_
  rw [← ni_append]
  obtain ⟨hdb, hd⟩ := HF.set_none hd
  obtain ⟨hda, hd⟩ := HF.set_none hd
  obtain ⟨hba, hb⟩ := HF.set_none hb
  walk_at "ev"
  refine ⟨by decide, fun e he => ?_⟩
  walk_at "ev"
  obtain ⟨hed, he⟩ := HF.set_none he
  obtain ⟨heb, he⟩ := HF.set_none he
  obtain ⟨hea, he⟩ := HF.set_none he
  refine ⟨trivial, calls_len (xs := ni (octs x ++ octs y)) (by rw [HF.set_other (Ne.symm hed), HF.set_self]) (by rw [ni_length, List.length_append]; omega) ?_⟩
  rw [ni_length]
  walk_at "ev"
  refine bin_mod (by decide) ?_
  have e3 : (-(((octs x ++ octs y).length : Nat) : Int)).fmod 3 = (((3 - (octs x ++ octs y).length % 3) % 3 : Nat) : Int) := by
    rw [Int.fmod_eq_emod_of_nonneg _ (by decide)]; omega
  rw [e3]
  refine bin_mulL (HF.set_self ..) (by omega) (by omega) (by decide) (by simp) fun f hf => ?_
  obtain ⟨hfe, hf⟩ := HF.set_none hf
  obtain ⟨hfd, hf⟩ := HF.set_none hf
  have e4 : (List.replicate (Int.toNat (((3 - (octs x ++ octs y).length % 3) % 3 : Nat) : Int)) [PV.int 64]).flatten = ni (List.replicate ((3 - (octs x ++ octs y).length % 3) % 3) 64) := by
    rw [Int.toNat_natCast]
    generalize (3 - (octs x ++ octs y).length % 3) % 3 = k
    induction k with
    | zero => rfl
    | succ k ih => rw [List.replicate_succ, List.flatten_cons, ih]; rfl
  rw [e4]
  walk_at "ev"
  refine bin_addL (xs := ni (List.replicate ((3 - (octs x ++ octs y).length % 3) % 3) 64)) (ys := ni (octs x ++ octs y)) (HF.set_self ..) (by rw [HF.set_other (Ne.symm hfd), HF.set_other (Ne.symm hed), HF.set_self]) (by rw [ni_length, ni_length, List.length_replicate, List.length_append]; omega) fun k hk => ?_
  rw [← ni_append]
  walk_at "ev"
  refine ⟨trivial, calls_bytesN (l := entB (x, y)) (HF.set_self ..) (fun z hz => by have := entB_oct (x, y) z hz; omega) (by omega) ?_⟩
  walk_at "ev"
  refine ⟨⟨_, _, P.K 156 _ rfl, rfl⟩, s_b64encode P (fun z hz => by have := entB_oct (x, y) z hz; omega) (entB_len3 _) hl ?_⟩
  walk_at "ev"
  obtain ⟨_, hk⟩ := HF.set_none hk
  refine ⟨H, ?_, h⟩
  refine HF.Le.newK ?_ (HF.Le.newK ?_ (HF.Le.newK he (HF.Le.newK hd (HF.Le.newK hb (HF.Le.newK ha (HF.Le.refl _))))))
  · exact (HF.set_none (HF.set_none (HF.set_none (HF.set_none hk).2).2).2).2
  · exact (HF.set_none (HF.set_none hf).2).2
end
end
section
theorem RaiseC.mono {g : G} {n : Nat} {f : PV} {vs : List PV} {H : HF} {X Y : HF → Prop} {T : String} (h : RaiseC g n f vs H X T) (k : ∀ H', X H' → Y H') : RaiseC g n f vs H Y T :=
  fun A l Fs R s E Q fv vvs r hfr I d1 d2 hE => h A l Fs R s E Q fv vvs r hfr I d1 d2 fun v s' hF => by
    obtain ⟨e, a0, H', D, h1, q1, q2, q3⟩ := hF
    exact hE _ _ ⟨e, a0, H', D, h1, q1, k _ q2, q3⟩
theorem and64 : ∀ b < 128, (Builtin.bitAnd ((b : Nat) : Int) 64 != 0) = decide (64 ≤ b) := by decide +kernel
theorem by8_get {l : List Nat} (h : Small l) {i : Nat} (hi : i < l.length) : (by8 l)[i]? = some (l[i].toUInt8) ∧ (l[i].toUInt8).toNat = l[i] := by
  refine ⟨by simp [by8, hi], ?_⟩
  have := h l[i] (List.getElem_mem hi)
  rw [UInt8.toNat_ofNat', Nat.mod_eq_of_lt this]
theorem drop_cons_get {l : List Nat} {i : Nat} (hi : i < l.length) : l.drop i = l[i] :: l.drop (i + 1) := List.drop_eq_getElem_cons hi
theorem drop_inj {l : List Nat} {i j : Nat} (hi : i ≤ l.length) (hj : j ≤ l.length) (h : l.drop i = l.drop j) : i = j := by
  have := congrArg List.length h
  rw [List.length_drop, List.length_drop] at this
  omega
section
variable {g : G} {n : Nat} {H : HF} {Q : PV → HF → Prop}
theorem s_parse (P : Prog g) {a : Addr} {l : List Nat} {i j v : Nat} (hH : H a = some (.biter (by8 l) i)) (ho : ∀ x ∈ l, x < 128) (hi : i ≤ l.length) (hj : j ≤ l.length) (hp : pvS 0 64 (l.drop i) = some (v, l.drop j))
    (h : Q (.int v) (H.set a (.biter (by8 l) j))) : Calls g (n + 1) (.ref 171) [.ref a] [] H Q := by
  refine calls_fnX (P.K 171 _ rfl) rfl rfl rfl (by kernel_rfl) rfl rfl rfl ⟨_, _, _, _, rfl, P.K _ _ rfl, rfl, rfl⟩ (binds1 (x := Str.ofString "iterator") P.K fun _ _ => by kernel_rfl) ?_
  have hs : Small l := fun x hx => by have := ho x hx; omega
  have hi2 : i < l.length := by
    rcases Nat.lt_or_ge i l.length with q | q
    · exact q
    · rw [List.drop_of_length_le q, pvS, if_pos (by decide)] at hp; cases hp
  obtain ⟨g1, g2⟩ := by8_get hs hi2
  rw [drop_cons_get hi2, pvS, if_pos (by decide), if_pos (by decide), Nat.zero_mul, Nat.zero_add] at hp
  have hb := ho l[i] (List.getElem_mem hi2)
  generalize hbe : l[i] = b at *
  walk_at "ev"
  refine ⟨trivial, calls_next_bytes hH g1 ?_⟩
  rw [g2]
  walk_at "ev"
  refine bin_mask 6 rfl ?_
  walk_at "ev"
  refine EvS_While (σ := Nat × Nat × Nat) (fun st => [(Str.ofString "val", .int st.1), (Str.ofString "b", .int st.2.1), (Str.ofString "iterator", .ref a)]) (fun st => H.set a (.biter (by8 l) st.2.2))
    (fun st => pvS st.1 st.2.1 (l.drop st.2.2) = some (v, l.drop j) ∧ st.2.2 ≤ l.length ∧ st.2.1 < 128) (fun st => l.length - st.2.2) ⟨(b % 64, b, i + 1), ⟨hp, hi2, hb⟩, (by walk_at "vle"), HF.Le.refl _⟩ ?_
  rintro ⟨val, b2, i2⟩ ⟨h1, h2, h3⟩
  dsimp only at h1 h2 h3 ⊢
  walk_at "ev"
  refine bin_and ?_
  walk_at "ev"
  rw [and64 b2 h3]
  refine ⟨fun ht => ?_, fun ht => ?_⟩
  · have ht := of_decide_eq_true ht
    have hi3 : i2 < l.length := by
      rcases Nat.lt_or_ge i2 l.length with q | q
      · exact q
      · rw [List.drop_of_length_le q, pvS, if_pos ht] at h1; cases h1
    obtain ⟨k1, k2⟩ := by8_get hs hi3
    rw [drop_cons_get hi3, pvS, if_pos ht] at h1
    have hc := ho l[i2] (List.getElem_mem hi3)
    generalize hce : l[i2] = c at *
    split at h1
    · rename_i hval
      walk_at "ev"
      refine ibin_shlN 6 rfl (by omega) (by omega) ?_
      walk_at "ev"
      refine ⟨trivial, calls_next_bytes (HF.set_self ..) k1 ?_⟩
      rw [k2, HF.set_set]
      walk_at "ev"
      refine bin_mask 6 rfl ?_
      refine ibin_orN 6 (by omega) ?_
      walk_at "ev"
      exact ⟨(val * 64 + c % 64, c, i2 + 1), ⟨⟨h1, hi3, hc⟩, by simp only; omega⟩, (by walk_at "vle"), HF.Le.refl _⟩
    · cases h1
  · have ht := of_decide_eq_false ht
    have e : pvS val b2 (l.drop i2) = some (val, l.drop i2) := by
      cases l.drop i2 <;> (rw [pvS, if_neg (by omega)])
    rw [e] at h1
    simp only [Option.some.injEq, Prod.mk.injEq] at h1
    have := drop_inj h2 hj h1.2
    subst this
    rw [h1.1]
    walk_at "ev"
    exact ⟨_, HF.Le.refl _, h⟩
theorem r_parse (P : Prog g) {a : Addr} {b : List UInt8} {i : Nat} (hH : H a = some (.biter b i)) (hc : b[i]? = none) : RaiseC g (n + 1) (.ref 171) [.ref a] H (fun H' => H' = H.del a) "StopIteration" := by
  refine raise_fn (pb := [(Str.ofString "iterator", .ref a)]) (P.K 171 _ rfl) rfl rfl (by kernel_rfl) rfl rfl rfl ⟨_, _, _, _, rfl, P.K _ _ rfl, rfl, rfl⟩ (binds1 (x := Str.ofString "iterator") P.K fun _ _ => by kernel_rfl) (fun _ => by kernel_rfl) (by kernel_rfl) hH hc ?_
  walk_at "ev"
  exact ⟨trivial, rfl, rfl, rfl⟩
def pr (p : Nat × Nat) : PV := ti [(p.1 : Int), (p.2 : Int)]
theorem s_label (P : Prog g) {ps : List (Nat × Nat)} (hl : (labT ps).length ≤ 40000) (hps : ps.length ≤ 40000) (hv : ∀ p ∈ ps, p.1 < 2 ^ 40 ∧ p.2 < 2 ^ 40) (h : ∀ a, H a = none → Q (.ref a) (H.set a (.list (ps.map pr)))) :
    Calls g (n + 4) (.ref 197) [.bytes (by8 (enc (labT ps)))] [] H Q := by
  refine calls_fnX (P.K 197 _ rfl) rfl rfl rfl (by kernel_rfl) rfl rfl rfl ⟨_, _, _, _, rfl, P.K _ _ rfl, rfl, rfl⟩ (binds1 (x := Str.ofString "text") P.K fun _ _ => by kernel_rfl) ?_
  have ho := labT_oct ps
  have hs : Small (labT ps) := fun x hx => by have := ho x hx; omega
  walk_at "ev"
  refine ⟨⟨_, _, P.K 164 _ rfl, rfl⟩, s_b64decode P hs (labT_len3 ps) hl ?_⟩
  walk_at "ev"
  refine ⟨trivial, calls_iter_bytes fun it hit => ?_⟩
  walk_at "ev"
  refine ⟨by decide, fun a ha => ?_⟩
  walk_at "ev"
  obtain ⟨hne, ha⟩ := HF.set_none ha
  refine EvS_TryStop (σ := Nat) (fun k => [(Str.ofString "pairs", .ref a), (Str.ofString "walker", .ref it)]) (fun k => (H.set it (.biter (by8 (labT ps)) (labT (ps.take k)).length)).set a (.list ((ps.take k).map pr)))
    (fun k => k ≤ ps.length) (fun k => ps.length - k) rfl (by kernel_rfl) (by kernel_rfl) (by kernel_rfl) (Prog.g_StopIteration P) ⟨0, Nat.zero_le _, (by walk_at "vle"), HF.Le.refl _⟩ fun k hk => ?_
  rcases Nat.lt_or_ge k ps.length with hlt | hge
  · left
    have hp : ps[k]? = some ps[k] := List.getElem?_eq_getElem hlt
    have hpm := hv ps[k] (List.getElem_mem hlt)
    have hsplit : ps = ps.take k ++ (ps[k] :: ps.drop (k + 1)) := by rw [← List.drop_eq_getElem_cons hlt, List.take_append_drop]
    generalize hpe : ps[k] = p at *
    have hL : labT ps = labT (ps.take k) ++ (entB p ++ labT (ps.drop (k + 1))) := by
      conv => lhs; rw [hsplit]
      rw [labT_append]; rfl
    have hd1 : (labT ps).drop (labT (ps.take k)).length = entB p ++ labT (ps.drop (k + 1)) := by
      conv => lhs; rw [hL]
      exact List.drop_left
    have hE : entB p = (List.replicate ((3 - (octs p.1 ++ octs p.2).length % 3) % 3) 64 ++ octs p.1) ++ octs p.2 := by unfold entB; rw [List.append_assoc]
    have hL2 : labT ps = (labT (ps.take k) ++ (List.replicate ((3 - (octs p.1 ++ octs p.2).length % 3) % 3) 64 ++ octs p.1)) ++ (octs p.2 ++ labT (ps.drop (k + 1))) := by rw [hL, hE]; simp
    have hd2 : (labT ps).drop (labT (ps.take k) ++ (List.replicate ((3 - (octs p.1 ++ octs p.2).length % 3) % 3) 64 ++ octs p.1)).length = octs p.2 ++ labT (ps.drop (k + 1)) := by
      conv => lhs; rw [hL2]
      exact List.drop_left
    have htk : ps.take (k + 1) = ps.take k ++ [p] := take_succ_of hp
    have hL3 : labT ps = labT (ps.take (k + 1)) ++ labT (ps.drop (k + 1)) := by rw [← labT_append, List.take_append_drop]
    have hd3 : (labT ps).drop (labT (ps.take (k + 1))).length = labT (ps.drop (k + 1)) := by
      conv => lhs; rw [hL3]
      exact List.drop_left
    have b1 : (labT (ps.take k)).length ≤ (labT ps).length := by rw [hL, List.length_append]; omega
    have b2 : (labT (ps.take k) ++ (List.replicate ((3 - (octs p.1 ++ octs p.2).length % 3) % 3) 64 ++ octs p.1)).length ≤ (labT ps).length := by
      conv => rhs; rw [hL2]
      rw [List.length_append (as := labT (ps.take k) ++ _)]; omega
    have b3 : (labT (ps.take (k + 1))).length ≤ (labT ps).length := by
      conv => rhs; rw [hL3]
      rw [List.length_append]; omega
    walk_at "ev"
    refine ⟨⟨_, _, P.K 171 _ rfl, rfl⟩, s_parse P (by rw [HF.set_other (Ne.symm hne), HF.set_self]) ho b1 b2 (by rw [hd1, hd2]; exact parse_ent p _ hpm.1) ?_⟩
    walk_at "ev"
    refine ⟨a, _, rfl, by rw [HF.set_other hne, HF.set_self], ?_⟩
    walk_at "ev"
    refine ⟨⟨_, _, P.K 171 _ rfl, rfl⟩, s_parse P (HF.set_self ..) ho b2 b3 (by rw [hd2, hd3]; exact pvS_octs _ _ hpm.2) ?_⟩
    rw [HF.set_set]
    walk_at "ev"
    refine ⟨by simp, ?_⟩
    walk_at "ev"
    refine calls_append (by rw [HF.set_other hne, HF.set_self]) (by simp; omega) ?_
    walk_at "ev"
    refine ⟨k + 1, ⟨hlt, by omega⟩, (by walk_at "vle"), ?_⟩
    rw [htk, List.map_append]
    intro b z e
    rw [← e]
    by_cases q : b = a
    · subst q; rw [HF.set_self, HF.set_self]; rfl
    · rw [HF.set_other q, HF.set_other q]
      by_cases q2 : b = it
      · subst q2; rw [HF.set_self, HF.set_self]
      · rw [HF.set_other q2, HF.set_other q, HF.set_other q2, HF.set_other q2]
  · right
    have hk : k = ps.length := by omega
    subst hk
    rw [List.take_length]
    refine raise_assign_call (fun _ => by kernel_rfl) (by kernel_rfl) ?_
    walk_at "ev"
    refine ⟨⟨_, _, P.K 171 _ rfl, rfl⟩, (r_parse P (b := by8 (labT ps)) (i := (labT ps).length) (by rw [HF.set_other (Ne.symm hne), HF.set_self]) (by rw [List.getElem?_eq_none]; rw [by8_length]; omega)).mono fun H' e => ⟨.ref a, (by walk_at "lk"), ?_⟩⟩
    subst e
    walk_at "ev"
    refine ⟨_, ?_, h a ha⟩
    intro b z e
    by_cases q : b = a
    · subst q
      rw [HF.set_self] at e
      rw [HF.del_other hne, HF.set_self]; exact e
    · rw [HF.set_other q] at e
      have q2 : b ≠ it := fun w => by subst w; rw [hit] at e; cases e
      rw [HF.del_other q2, HF.set_other q, HF.set_other q2]; exact e
end
end
section
def sum1 (p q : Nat × Nat) : Option Nat := if p.1 = q.1 then some (p.2 + q.2) else none
def sums (ps qs : List (Nat × Nat)) : List Nat := ps.flatMap fun p => qs.filterMap (sum1 p)
theorem sums_len (ps qs : List (Nat × Nat)) : (sums ps qs).length ≤ ps.length * qs.length := by
  unfold sums
  induction ps with
  | nil => simp
  | cons p ps ih =>
    rw [List.flatMap_cons, List.length_append, List.length_cons, Nat.add_mul, Nat.one_mul]
    have := List.length_filterMap_le (sum1 p) qs
    omega
theorem map_none {α : Type} {l : List α} {f : α → PV} {i : Nat} (h : (l.map f)[i]? = none) : l.length ≤ i := by simpa using h
theorem map_get {α : Type} {l : List α} {f : α → PV} {i : Nat} {x : PV} (h : (l.map f)[i]? = some x) : ∃ y, l[i]? = some y ∧ x = f y := by
  rw [List.getElem?_map] at h
  obtain ⟨y, h1, h2⟩ := Option.map_eq_some_iff.mp h
  exact ⟨y, h1, h2.symm⟩
section
variable {g : G} {n : Nat} {H : HF} {Q : PV → HF → Prop}
theorem s_sums (P : Prog g) {a b : Addr} {ps qs : List (Nat × Nat)} (hH : H a = some (.list (ps.map pr))) (hH' : H b = some (.list (qs.map pr))) (hp : ps.length ≤ 100) (hq : qs.length ≤ 100) (h : ∀ d, H d = none → Q (.ref d) (H.set d (.list (ni (sums ps qs))))) :
    Calls g (n + 1) (.ref 202) [.ref a, .ref b] [] H Q := by
  refine calls_fnX (P.K 202 _ rfl) rfl rfl rfl (by kernel_rfl) rfl rfl rfl ⟨_, _, _, _, rfl, P.K _ _ rfl, rfl, rfl⟩ (binds2 (x := Str.ofString "pairs") (y := Str.ofString "others") P.K fun _ _ _ => by kernel_rfl) ?_
  walk_at "ev"
  refine EvE_CompM [(Str.ofString "others", .ref b)] rfl (by kernel_rfl) rfl (by kernel_rfl) ?_
  walk_at "ev"
  refine ⟨.list a (ps.map pr), rfl, hH, ?_⟩
  refine EvG_mk (σ := List PV) (fun _ => [(Str.ofString "others", .ref b)]) (fun _ => H) (fun st => st) (fun i st => st = ni (sums (ps.take i) qs)) rfl (fun g hg => by cases hg; rfl) ⟨[], rfl, Vars.Le.refl _, HF.Le.refl _, rfl⟩ fun i st hS => ⟨hH, fun x hx => ?_, fun hx => ?_⟩
  · obtain ⟨p, hpi, rfl⟩ := map_get hx
    walk_at "ev"
    unfold pr ti
    dsimp only [List.map]
    walk_at "ev"
    refine ⟨fun _ => ?_, fun q => (nomatch q)⟩
    refine EvIn_gen rfl rfl ?_
    walk_at "ev"
    refine ⟨.list b (qs.map pr), rfl, hH', ?_⟩
    have hb0 : st.length ≤ 10000 := by
      rw [hS, ni_length]
      have h1 := sums_len (ps.take i) qs
      have h2 : (ps.take i).length ≤ 100 := by rw [List.length_take]; omega
      exact Nat.le_trans h1 (Nat.mul_le_mul h2 hq)
    refine EvG_mk (σ := List PV) (fun _ => [(Str.ofString "hub", .int p.1), (Str.ofString "far", .int p.2), (Str.ofString "others", .ref b)]) (fun _ => H) (fun st => st) (fun j st2 => st2 = st ++ ni ((qs.take j).filterMap (sum1 p))) rfl (fun g hg => by cases hg) ⟨st, by simp [ni], (by walk_at "vle"), HF.Le.refl _, rfl⟩ fun j st2 hS2 => ⟨hH', fun y hy => ?_, fun hy => ?_⟩
    · obtain ⟨q, hqj, rfl⟩ := map_get hy
      walk_at "ev"
      unfold pr ti
      dsimp only [List.map]
      have hb1 : st2.length < 100000 := by
        rw [hS2, List.length_append, ni_length]
        have : ((qs.take j).filterMap (sum1 p)).length ≤ 100 := Nat.le_trans (List.length_filterMap_le ..) (by rw [List.length_take]; omega)
        omega
      walk_at "ev"
      refine ⟨fun he => ?_, fun he => ?_⟩
      · have he : (p.1 : Int) = q.1 := eq_of_beq he
        refine EvIn_elt rfl ?_
        walk_at "ev"
        refine ⟨hb1, _, rfl, (by walk_at "vle"), HF.Le.refl _, ?_⟩
        have e1 : sum1 p q = some (p.2 + q.2) := by unfold sum1; rw [if_pos (by omega)]
        rw [filterMap_take hqj, e1, ni_append, hS2, List.append_assoc]
        rfl
      · have he : ¬ (p.1 : Int) = q.1 := by simpa using he
        refine ⟨_, rfl, (by walk_at "vle"), HF.Le.refl _, ?_⟩
        have e1 : sum1 p q = none := by unfold sum1; rw [if_neg (by omega)]
        rw [filterMap_take hqj, e1, hS2]
        simp
    · have hj : qs.length ≤ j := map_none hy
      refine ⟨_, rfl, (by walk_at "vle"), HF.Le.refl _, ?_⟩
      rw [hS2, List.take_of_length_le hj, hS, take_succ_of hpi]
      unfold sums
      rw [List.flatMap_append, ni_append]
      simp [ni]
  · have hi : ps.length ≤ i := map_none hx
    rw [hS, List.take_of_length_le hi]
    intro d hd
    walk_at "ev"
    exact ⟨_, HF.Le.refl _, h d hd⟩
end
end
section
def least : List Nat → List Nat
  | [] => []
  | x :: r => [r.foldl min x]
theorem foldl_min_cast : ∀ (r : List Nat) (x : Nat), (r.map fun (y : Nat) => (y : Int)).foldl min (x : Int) = ((r.foldl min x : Nat) : Int)
  | [], x => rfl
  | y :: r, x => by
    rw [List.map_cons, List.foldl_cons, List.foldl_cons, ← foldl_min_cast r (min x y)]
    congr 1
    omega
theorem ni_eq (l : List Nat) : ni l = (l.map fun (x : Nat) => (x : Int)).map .int := by simp [ni]
section
variable {g : G} {n : Nat} {H : HF} {Q : PV → HF → Prop}
theorem s_nsmallest1 (P : Prog g) {a : Addr} {l : List Nat} (hH : H a = some (.list (ni l))) (h : ∀ d, H d = none → Q (.ref d) (H.set d (.list (ni (least l))))) : Calls g (n + 1) (.ref 83) [.int 1, .ref a] [] H Q := by
  refine calls_fnX (P.K 83 _ rfl) rfl rfl rfl (by kernel_rfl) rfl rfl rfl ⟨_, _, _, _, rfl, P.K _ _ rfl, rfl, rfl⟩ (binds2n (x := Str.ofString "n") (y := Str.ofString "iterable") (z := Str.ofString "key") P.K fun _ _ _ => by kernel_rfl) ?_
  walk_at "ev"
  refine EvS_If ?_
  walk_at "ev"
  refine ⟨fun _ => ?_, fun q => (nomatch q)⟩
  walk_at "ev"
  refine ⟨trivial, calls_iter_list hH fun it hit => ?_⟩
  walk_at "ev"
  refine ⟨trivial, calls_object fun d hd => ?_⟩
  walk_at "ev"
  obtain ⟨hdi, hd⟩ := HF.set_none hd
  have hai : it ≠ a := fun q => by subst q; rw [hH] at hit; cases hit
  have had : a ≠ d := fun q => by subst q; rw [hH] at hd; cases hd
  refine ⟨trivial, calls_min_dflt (ns := l.map fun (x : Nat) => (x : Int)) (by rw [HF.set_other (Ne.symm hdi), HF.set_self]) (by rw [HF.set_other had, HF.set_other (Ne.symm hai), ← ni_eq]; exact hH) hai ?_⟩
  have hle : HF.Le H (((H.set it (.liter a 0)).set d .plain).del it) := HF.Le.delK hit (HF.Le.newK hd (HF.Le.newK hit (HF.Le.refl _)))
  cases l with
  | nil =>
    rw [show minD (.ref d) (([] : List Nat).map fun (x : Nat) => (x : Int)) = .ref d from rfl]
    walk_at "ev"
    refine cmp_is_self ?_
    walk_at "ev"
    refine ⟨fun _ => ?_, fun q => (nomatch q)⟩
    walk_at "ev"
    refine ⟨by decide, fun e he => ?_⟩
    have he' : H e = none := by
      cases q : H e with
      | none => rfl
      | some x => rw [hle _ _ q] at he; cases he
    walk_at "ev"
    exact ⟨_, HF.Le.cong hle, h e he'⟩
  | cons x r =>
    rw [show minD (.ref d) ((x :: r).map fun (x : Nat) => (x : Int)) = .int ((r.map fun (x : Nat) => (x : Int)).foldl min (x : Int)) from rfl, foldl_min_cast]
    walk_at "ev"
    refine cmp_is_intref ?_
    walk_at "ev"
    refine ⟨fun q => (nomatch q), fun _ => ?_⟩
    walk_at "ev"
    refine ⟨by simp, fun e he => ?_⟩
    have he' : H e = none := by
      cases q : H e with
      | none => rfl
      | some x => rw [hle _ _ q] at he; cases he
    walk_at "ev"
    exact ⟨_, HF.Le.cong hle, h e he'⟩
abbrev Way := Nat × Nat × Nat
def wv (w : Way) : PV := ti [(w.1 : Int), (w.2.1 : Int), (w.2.2 : Int)]
def wayOf (x : Int) : Way := ((x.fmod 5).toNat, ((x.fdiv 5).fmod 5).toNat, ((x.fdiv 25).fmod 5000).toNat)
def numsOf (ns : List Int) : List Int := (ns.take 7 ++ [515, 773, 884, 1633, 2255, 187, 1019]).take 7
def waysOf (ns : List Int) : List Way := (numsOf ns).map wayOf
def wayP : PV → Option PV
  | .int x => some (.tup [.int (x.fmod 5), .int ((x.fdiv 5).fmod 5), .int ((x.fdiv 25).fmod 5000)])
  | _ => none
theorem wayP_eq (ns : List Int) : (ns.map PV.int).filterMap wayP = (ns.map wayOf).map wv := by
  induction ns with
  | nil => rfl
  | cons x r ih =>
    have h1 : ∀ y : Int, ((y.fmod 5).toNat : Int) = y.fmod 5 := fun y => by have := Int.fmod_nonneg_of_pos y (b := 5) (by decide); omega
    have h2 : ∀ y : Int, ((y.fmod 5000).toNat : Int) = y.fmod 5000 := fun y => by have := Int.fmod_nonneg_of_pos y (b := 5000) (by decide); omega
    rw [List.map_cons, List.filterMap_cons, List.map_cons, List.map_cons, ih]
    show (PV.tup [.int (x.fmod 5), .int ((x.fdiv 5).fmod 5), .int ((x.fdiv 25).fmod 5000)]) :: _ = _
    unfold wv wayOf ti
    simp only [List.map_cons, List.map_nil, h1, h2]
theorem sli_base {v : Expr} {l u : Option Expr} {p2 : Pos} {a : Addr} {vs : Array Value} {xs : List PV} {lo hi : Option Nat} (hL : g.h₀.IsList a vs) (hD : DenL g.h₀ xs vs.toList) (hn : xs.length ≤ 100000)
    (h : ∀ c, H c = none → Q (.ref c) (H.set c (.list ((xs.drop (lo.getD 0)).take (min (hi.getD xs.length) xs.length - lo.getD 0))))) : SliO g n v (.Slice l u none p2) (.ref a) (optI lo) (optI hi) .none H Q := fun vo vl vu ws i => Op.mk fun A Fs R s E r I d => by
  obtain ⟨rfl, d1, d2, d3, hi'⟩ := d
  obtain ⟨o, h1, h2, k, h3⟩ := hL
  exact slice_gen I ⟨o, I.base _ _ h1, h2, k, h3⟩ (hD.keeps fun b o e _ => I.base b o e) hn d1 d2 d3 hi' h
theorem s_ways (P : Prog g) {a : Addr} {vs : Array Value} {ns : List Int} (hL : g.h₀.IsList a vs) (hD : DenL g.h₀ (ns.map .int) vs.toList) (hn : ns.length ≤ 100) (h : ∀ d, H d = none → Q (.ref d) (H.set d (.list ((waysOf ns).map wv)))) : Calls g (n + 1) (.ref 176) [.ref a] [] H Q := by
  refine calls_fnX (P.K 176 _ rfl) rfl rfl rfl (by kernel_rfl) rfl rfl rfl ⟨_, _, _, _, rfl, P.K _ _ rfl, rfl, rfl⟩ (binds1 (x := Str.ofString "script") P.K fun _ _ => by kernel_rfl) ?_
  walk_at "ev"
  refine sli_base (lo := none) (hi := some 7) hL hD (by simp; omega) fun b hb => ?_
  walk_at "ev"
  refine ⟨by decide, fun d hd => ?_⟩
  obtain ⟨hdb, hd⟩ := HF.set_none hd
  refine bin_addL (xs := (ns.take 7).map .int) (ys := [515, 773, 884, 1633, 2255, 187, 1019].map PV.int) ?_ (HF.set_self ..) (by simp; omega) fun e he => ?_
  · rw [HF.set_other (Ne.symm hdb), HF.set_self]
    congr 2
    simp only [Option.getD_none, Option.getD_some, List.drop_zero, Nat.sub_zero, List.length_map, ← List.map_take]
    congr 1
    rcases Nat.le_total 7 ns.length with q | q
    · rw [Nat.min_eq_left q]
    · rw [Nat.min_eq_right q, List.take_length, List.take_of_length_le q]
  walk_at "ev"
  refine sli_list (lo := none) (hi := some 7) (HF.set_self ..) (by simp; omega) fun k hk => ?_
  obtain ⟨hke, hk⟩ := HF.set_none hk
  obtain ⟨hkd, hk⟩ := HF.set_none hk
  obtain ⟨hkb, hk⟩ := HF.set_none hk
  obtain ⟨hed, he⟩ := HF.set_none he
  obtain ⟨heb, he⟩ := HF.set_none he
  walk_at "ev"
  have hl : ((((ns.take 7).map PV.int ++ [515, 773, 884, 1633, 2255, 187, 1019].map PV.int).drop ((none : Option Nat).getD 0)).take (min ((some 7).getD ((ns.take 7).map PV.int ++ [515, 773, 884, 1633, 2255, 187, 1019].map PV.int).length) ((ns.take 7).map PV.int ++ [515, 773, 884, 1633, 2255, 187, 1019].map PV.int).length - (none : Option Nat).getD 0)) = (numsOf ns).map .int := by
    rw [← List.map_append]
    simp only [Option.getD_none, Option.getD_some, List.drop_zero, Nat.sub_zero, ← List.map_take, numsOf]
    congr 2
    simp only [List.length_map, List.length_append, List.length_cons, List.length_nil]
    omega
  rw [hl]
  have hlen : (numsOf ns).length ≤ 7 := by unfold numsOf; rw [List.length_take]; omega
  refine EvE_Comp1 [] wayP (by kernel_rfl) rfl (by kernel_rfl) ?_
  walk_at "ev"
  refine ⟨.list k ((numsOf ns).map .int), rfl, HF.set_self .., by show ((numsOf ns).map PV.int).length ≤ _; rw [List.length_map]; omega, fun i x hx => ?_, fun f hf => ?_⟩
  · obtain ⟨y, hy, rfl⟩ := map_get hx
    walk_at "ev"
    refine ⟨vle_nil, ?_⟩
    walk_at "ev"
    refine ⟨fun _ => ?_, fun q => (nomatch q)⟩
    walk_at "ev"
    refine bin_mod (by decide) ?_
    walk_at "ev"
    refine bin_div (by decide) (by decide) ?_
    walk_at "ev"
    refine bin_mod (by decide) ?_
    walk_at "ev"
    refine bin_div (by decide) (by decide) ?_
    walk_at "ev"
    refine bin_mod (by decide) ?_
    walk_at "ev"
    exact ⟨by simp, HF.Le.refl _, rfl⟩
  · obtain ⟨hfk, hf⟩ := HF.set_none hf
    obtain ⟨hfe, hf⟩ := HF.set_none hf
    obtain ⟨hfd, hf⟩ := HF.set_none hf
    obtain ⟨hfb, hf⟩ := HF.set_none hf
    walk_at "ev"
    refine ⟨_, ?_, h f hf⟩
    rw [show (Src.list k ((numsOf ns).map .int)).items = (numsOf ns).map .int from rfl, wayP_eq]
    exact HF.Le.cong (HF.Le.newK hk (HF.Le.newK he (HF.Le.newK hd (HF.Le.newK hb (HF.Le.refl _)))))
end
end
section
/-! tables -/
def rowsH (H : HF) (rs : List Addr) (f : Nat → List PV) : HF := fun b => if b ∈ rs then some (.list (f (rs.idxOf b))) else H b
theorem idx_self {rs : List Addr} (nd : rs.Nodup) {i : Nat} (h : i < rs.length) : rs.idxOf rs[i] = i := nd.idxOf_getElem i h
theorem rowsH_get {H : HF} {rs : List Addr} {f : Nat → List PV} (nd : rs.Nodup) {i : Nat} (h : i < rs.length) : rowsH H rs f rs[i] = some (.list (f i)) := by
  unfold rowsH; rw [if_pos (List.getElem_mem h), idx_self nd h]
theorem rowsH_other {H : HF} {rs : List Addr} {f : Nat → List PV} {b : Addr} (h : b ∉ rs) : rowsH H rs f b = H b := if_neg h
theorem rowsH_nil (H : HF) (f : Nat → List PV) : rowsH H [] f = H := by funext b; exact if_neg (by simp)
theorem rowsH_none {H : HF} {rs : List Addr} {f : Nat → List PV} {b : Addr} (h : rowsH H rs f b = none) : b ∉ rs ∧ H b = none := by
  unfold rowsH at h
  split at h
  · cases h
  · exact ⟨‹_›, h⟩
theorem rowsH_set {H : HF} {rs : List Addr} {f : Nat → List PV} (nd : rs.Nodup) {i : Nat} (h : i < rs.length) (ys : List PV) : (rowsH H rs f).set rs[i] (.list ys) = rowsH H rs (fun k => if k = i then ys else f k) := by
  funext b
  by_cases q : b = rs[i]
  · subst q; rw [HF.set_self, rowsH_get nd h, if_pos rfl]
  · rw [HF.set_other q]
    unfold rowsH
    split
    · rename_i hb
      have : rs.idxOf b ≠ i := fun e => q (by
        have hl := List.idxOf_lt_length_of_mem hb
        have := List.getElem_idxOf hl
        subst e
        exact this.symm)
      simp only [if_neg this]
    · rfl
theorem rowsH_push {H : HF} {rs : List Addr} {f : Nat → List PV} {a : Addr} (h : a ∉ rs) : (rowsH H rs f).set a (.list (f rs.length)) = rowsH H (rs ++ [a]) f := by
  funext b
  by_cases q : b = a
  · subst q
    rw [HF.set_self]
    unfold rowsH
    rw [if_pos (by simp), List.idxOf_append, if_neg h]
    simp
  · rw [HF.set_other q]
    unfold rowsH
    by_cases hb : b ∈ rs
    · rw [if_pos hb, if_pos (by simp [hb]), List.idxOf_append, if_pos hb]
    · rw [if_neg hb, if_neg (by simp [hb, q])]
theorem rowsH_le {H : HF} {rs : List Addr} {f : Nat → List PV} (h : ∀ a ∈ rs, H a = none) : H.Le (rowsH H rs f) := fun b x e => by
  rw [rowsH_other (fun q => by rw [h b q] at e; cases e)]; exact e
abbrev Mx := Nat → Nat → Nat
def rowL (M : Mx) (i : Nat) : List PV := (List.range 5).map fun j => .int (M i j : Nat)
def setM (M : Mx) (a b v : Nat) : Mx := fun i j => if i = a ∧ j = b then v else M i j
theorem rowL_get (M : Mx) (i : Nat) {j : Nat} (h : j < 5) : (rowL M i)[j]? = some (.int (M i j : Nat)) := by
  unfold rowL; rw [List.getElem?_map, List.getElem?_range h]; rfl
theorem rowL_len (M : Mx) (i : Nat) : (rowL M i).length = 5 := by simp [rowL]
theorem rowL_set (M : Mx) (a b v : Nat) (hb : b < 5) : rowL (setM M a b v) = fun k => if k = a then (rowL M a).set b (.int v) else rowL M k := by
  funext k
  apply List.ext_getElem?
  intro j
  by_cases hj : j < 5
  · rw [rowL_get _ _ hj]
    by_cases hk : k = a
    · subst hk
      rw [if_pos rfl, List.getElem?_set, rowL_get _ _ hj, rowL_len]
      unfold setM
      by_cases hb2 : b = j
      · subst hb2; simp [hj]
      · rw [if_neg (by omega), if_neg hb2]
    · rw [if_neg hk, rowL_get _ _ hj]
      unfold setM; rw [if_neg (by omega)]
  · rw [List.getElem?_eq_none (by rw [rowL_len]; omega)]
    by_cases hk : k = a
    · rw [if_pos hk, List.getElem?_eq_none (by rw [List.length_set, rowL_len]; omega)]
    · rw [if_neg hk, List.getElem?_eq_none (by rw [rowL_len]; omega)]
structure Tab (t : Addr) (rs : List Addr) : Prop where
  len : rs.length = 5
  nd : rs.Nodup
  tn : t ∉ rs
def tabH (H : HF) (t : Addr) (rs : List Addr) (M : Mx) : HF := (rowsH H rs (rowL M)).set t (.list (rs.map .ref))
theorem tabH_t (H : HF) (t : Addr) (rs : List Addr) (M : Mx) : tabH H t rs M t = some (.list (rs.map .ref)) := HF.set_self ..
theorem tabH_other {H : HF} {t : Addr} {rs : List Addr} {M : Mx} {b : Addr} (h1 : b ≠ t) (h2 : b ∉ rs) : tabH H t rs M b = H b := by
  unfold tabH; rw [HF.set_other h1, rowsH_other h2]
theorem tabH_row {H : HF} {t : Addr} {rs : List Addr} {M : Mx} (T : Tab t rs) {i : Nat} (h : i < rs.length) : tabH H t rs M rs[i] = some (.list (rowL M i)) := by
  unfold tabH
  rw [HF.set_other (fun q => T.tn (by rw [← q]; exact List.getElem_mem h)), rowsH_get T.nd h]
theorem tabH_none {H : HF} {t : Addr} {rs : List Addr} {M : Mx} {b : Addr} (h : tabH H t rs M b = none) : b ≠ t ∧ b ∉ rs ∧ H b = none := by
  obtain ⟨h1, h2⟩ := HF.set_none h
  exact ⟨h1, rowsH_none h2⟩
theorem tabH_set {H : HF} {t : Addr} {rs : List Addr} {M : Mx} (T : Tab t rs) {i j : Nat} (h : i < rs.length) (hj : j < 5) (v : Nat) : (tabH H t rs M).set rs[i] (.list ((rowL M i).set j (.int v))) = tabH H t rs (setM M i j v) := by
  unfold tabH
  rw [HF.set_comm (fun q => T.tn (by rw [q]; exact List.getElem_mem h)), rowsH_set T.nd h, rowL_set _ _ _ _ hj]
theorem Tab.lt {t : Addr} {rs : List Addr} (T : Tab t rs) {i : Nat} (h : i < 5) : i < rs.length := by rw [T.len]; exact h
section
variable {g : G} {n : Nat} {H : HF} {Q : PV → HF → Prop}
theorem sub_tab1 {v i : Expr} {t : Addr} {rs : List Addr} {M : Mx} {k : Nat} (T : Tab t rs) (hs : notSlice i = true) (hk : k < 5) (h : Q (.ref (rs[k]'(T.lt hk))) (tabH H t rs M)) : SubO g n v i (.ref t) (.int k) (tabH H t rs M) Q :=
  sub_listN hs (tabH_t ..) (by omega) (by rw [List.getElem?_map, List.getElem?_eq_getElem (T.lt hk)]; rfl) h
theorem sub_tab2 {v i : Expr} {t : Addr} {rs : List Addr} {M : Mx} {k j : Nat} (T : Tab t rs) (hs : notSlice i = true) (hk : k < 5) (hj : j < 5) (h : Q (.int (M k j : Nat)) (tabH H t rs M)) : SubO g n v i (.ref (rs[k]'(T.lt hk))) (.int j) (tabH H t rs M) Q :=
  sub_listN hs (tabH_row T (T.lt hk)) (by omega) (rowL_get _ _ hj) h
theorem set_tab {t : Addr} {rs : List Addr} {M : Mx} {k j v : Nat} {Q : HF → Prop} (T : Tab t rs) (hk : k < 5) (hj : j < 5) (h : Q (tabH H t rs (setM M k j v))) : SetO g n (.ref (rs[k]'(T.lt hk))) (.int j) (.int v) (tabH H t rs M) Q :=
  set_listN (tabH_row T (T.lt hk)) (by rw [rowL_len]; exact hj) (by rw [rowL_len]; omega) (by rw [tabH_set T (T.lt hk) hj]; exact h)
theorem calls_minN {a b : Nat} (h : Q (.int (min a b : Nat)) H) : Calls g n (.builtin "min") [.int a, .int b] [] H Q :=
  calls_min2 (by
    have e : min (a : Int) (b : Int) = ((min a b : Nat) : Int) := by omega
    rw [e]; exact h)
def noneV (ways : List Way) : Nat := 1 + (ways.map fun w => w.2.2).sum
def M0 (nv : Nat) : Mx := fun i j => if i = j then 0 else nv
def edgeM (M : Mx) (w : Way) : Mx :=
  setM (setM M w.1 w.2.1 (min (M w.1 w.2.1) w.2.2)) w.2.1 w.1 (min (setM M w.1 w.2.1 (min (M w.1 w.2.1) w.2.2) w.2.1 w.1) w.2.2)
def fwJ (m i : Nat) (M : Mx) (j : Nat) : Mx := setM M i j (min (M i j) (M i m + M m j))
def fwI (m : Nat) (M : Mx) (i : Nat) : Mx := (List.range 5).foldl (fwJ m i) M
def fwM (M : Mx) (m : Nat) : Mx := (List.range 5).foldl (fwI m) M
def lens (ways : List Way) : Mx := (List.range 5).foldl fwM (ways.foldl edgeM (M0 (noneV ways)))
def sizeP : PV → Option PV
  | .tup [_, _, x] => some x
  | _ => none
theorem sizeP_eq (ways : List Way) : (ways.map wv).filterMap sizeP = (ways.map fun w => (w.2.2 : Int)).map .int := by
  induction ways with
  | nil => rfl
  | cons w r ih => rw [List.map_cons, List.filterMap_cons, List.map_cons, List.map_cons, ih]; rfl
theorem sum_cast (ways : List Way) : (ways.map fun w => (w.2.2 : Int)).sum = (((ways.map fun w => w.2.2).sum : Nat) : Int) := by
  induction ways with
  | nil => rfl
  | cons w r ih => rw [List.map_cons, List.sum_cons, ih, List.map_cons, List.sum_cons]; push_cast; rfl
theorem range_get {c : Addr} {k : Nat} {i : Nat} {x : PV} (h : (Src.range c 0 (k : Int)).items[i]? = some x) : i < k ∧ x = .int (i : Int) := by
  have h : (rangeL 0 (k : Int))[i]? = some x := h
  rw [rangeL_get] at h
  split at h
  · cases h; exact ⟨by omega, by rw [Int.zero_add]⟩
  · cases h
theorem range_none {c : Addr} {k : Nat} {i : Nat} (h : (Src.range c 0 (k : Int)).items[i]? = none) : k ≤ i := by
  have h : (rangeL 0 (k : Int))[i]? = none := h
  rw [rangeL_get] at h
  split at h
  · cases h
  · omega
def eqP (i nv : Nat) : PV → Option PV
  | .int j => some (.int (if (i : Int) = j then 0 else nv))
  | _ => none
theorem eqP_eq (i nv : Nat) : (rangeL 0 5).filterMap (eqP i nv) = rowL (M0 nv) i := by
  show (((List.range 5).map fun (k : Nat) => PV.int (0 + (k : Int))).filterMap (eqP i nv)) = _
  rw [List.filterMap_map]
  unfold rowL
  have e : (eqP i nv ∘ fun (k : Nat) => PV.int (0 + (k : Int))) = fun k => some (PV.int (M0 nv i k : Nat)) := by
    funext k
    show eqP i nv (.int (0 + (k : Int))) = _
    unfold eqP M0
    simp only [Int.zero_add]
    congr 2
    by_cases q : i = k
    · rw [if_pos q, if_pos (by omega)]; rfl
    · rw [if_neg q, if_neg (by omega)]
  rw [e]
  simp
theorem range_take {i : Nat} (h : i < 5) : (List.range 5)[i]? = some i := List.getElem?_range h
end
end
section
theorem EvS.weak {c : Cx} {e : Stmt} {m m' : Vars} {H H' : HF} {Q : Fl → Vars → HF → Prop} (km : Vars.Le m' m) (k : HF.Le H' H) (h : EvS c e m' H' Q) : EvS c e m H Q := EvM.weak km k h
section
variable {g : G} {n : Nat} {H : HF} {Q : PV → HF → Prop}
def Way5 (ways : List Way) : Prop := ∀ w ∈ ways, w.1 < 5 ∧ w.2.1 < 5
theorem s_lengths (P : Prog g) {wa : Addr} {ways : List Way} (hH : H wa = some (.list (ways.map wv))) (hw : Way5 ways) (hl : ways.length ≤ 100)
    (h : ∀ t rs, Tab t rs → H t = none → (∀ a ∈ rs, H a = none) → Q (.tup [.ref t, .int (noneV ways : Nat)]) (tabH H t rs (lens ways))) : Calls g (n + 1) (.ref 212) [.ref wa] [] H Q := by
  refine calls_fnX (P.K 212 _ rfl) rfl rfl rfl (by kernel_rfl) rfl rfl rfl ⟨_, _, _, _, rfl, P.K _ _ rfl, rfl, rfl⟩ (binds1 (x := Str.ofString "ways") P.K fun _ _ => by kernel_rfl) ?_
  walk_at "ev"
  refine EvE_Comp1 [] sizeP (by kernel_rfl) rfl (by kernel_rfl) ?_
  walk_at "ev"
  refine ⟨.list wa (ways.map wv), rfl, hH, by show (ways.map wv).length ≤ _; rw [List.length_map]; omega, fun i x hx => ?_, fun f hf => ?_⟩
  · obtain ⟨w, hwi, rfl⟩ := map_get hx
    unfold wv ti
    dsimp only [List.map]
    walk_at "ev"
    refine ⟨vle_nil, ?_⟩
    walk_at "ev"
    refine ⟨fun _ => ?_, fun q => (nomatch q)⟩
    walk_at "ev"
    exact ⟨HF.Le.refl _, rfl⟩
  rw [show (Src.list wa (ways.map wv)).items = ways.map wv from rfl, sizeP_eq]
  walk_at "ev"
  refine ⟨trivial, calls_sum (HF.set_self ..) ?_⟩
  rw [sum_cast]
  walk_at "ev"
  have e1 : 1 + (((ways.map fun w => w.2.2).sum : Nat) : Int) = ((noneV ways : Nat) : Int) := by unfold noneV; push_cast; rfl
  rw [e1]
  refine EvS.weak (Vars.Le.refl _) (HF.Le.newK hf (HF.Le.refl _)) ?_
  refine EvS_CompM [(Str.ofString "none", .int (noneV ways : Nat))] (fun env he => by cases env; cases he; kernel_rfl) (by kernel_rfl) rfl (by kernel_rfl) rfl (by kernel_rfl) ?_
  walk_at "ev"
  refine ⟨trivial, calls_range1 fun c hc => ?_⟩
  refine ⟨.range c 0 5, rfl, ⟨HF.set_self .., by decide⟩, ?_⟩
  refine EvG_mk (σ := List Addr) (fun _ => [(Str.ofString "none", .int (noneV ways : Nat))]) (fun rs => rowsH H rs (rowL (M0 (noneV ways)))) (fun rs => rs.map .ref) (fun i rs => rs.length = i ∧ i ≤ 5 ∧ rs.Nodup ∧ ∀ a ∈ rs, H a = none) rfl (fun g hg => by cases hg)
    ⟨[], ⟨rfl, by decide, List.nodup_nil, by simp⟩, Vars.Le.refl _, by rw [rowsH_nil]; exact HF.Le.newK hc (HF.Le.refl _), rfl⟩ fun i rs ⟨s1, s2, s3, s4⟩ => ⟨trivial, fun x hx => ?_, fun hx => ?_⟩
  · obtain ⟨hi, rfl⟩ := range_get (k := 5) hx
    walk_at "ev"
    refine ⟨fun _ => ?_, fun q => (nomatch q)⟩
    refine EvIn_elt rfl ?_
    refine EvE_Comp1 [(Str.ofString "one", .int i), (Str.ofString "none", .int (noneV ways : Nat))] (eqP i (noneV ways)) (by kernel_rfl) rfl (by kernel_rfl) ?_
    walk_at "ev"
    refine ⟨trivial, calls_range1 fun d hd => ?_⟩
    obtain ⟨hd1, hd2⟩ := rowsH_none hd
    refine ⟨.range d 0 5, rfl, ⟨HF.set_self .., by decide⟩, by show (rangeL 0 5).length ≤ _; decide, fun j y hy => ?_, fun a ha => ?_⟩
    · obtain ⟨hj, rfl⟩ := range_get (k := 5) hy
      walk_at "ev"
      refine ⟨vle_new (by kernel_rfl) (Vars.Le.refl _), ?_⟩
      walk_at "ev"
      refine ⟨fun _ => ?_, fun q => (nomatch q)⟩
      walk_at "ev"
      refine ⟨fun he => ?_, fun he => ?_⟩
      · have he : (i : Int) = j := eq_of_beq he
        walk_at "ev"
        refine ⟨HF.Le.refl _, ?_⟩
        show some (PV.int (if (i : Int) = j then 0 else (noneV ways : Nat))) = _; rw [if_pos he]
      · have he : ¬ (i : Int) = j := by simpa using he
        walk_at "ev"
        refine ⟨HF.Le.refl _, ?_⟩
        show some (PV.int (if (i : Int) = j then 0 else (noneV ways : Nat))) = _; rw [if_neg he]
    · obtain ⟨had, ha⟩ := HF.set_none ha
      obtain ⟨ha1, ha2⟩ := rowsH_none ha
      refine ⟨by rw [List.length_map]; omega, rs ++ [a], ⟨by rw [List.length_append, s1]; rfl, hi, ?_, ?_⟩, (by walk_at "vle"), ?_, by simp⟩
      · rw [List.nodup_append]
        exact ⟨s3, by simp, fun b hb d hd => by simp at hd; subst hd; exact fun q => ha1 (q ▸ hb)⟩
      · intro b hb
        rcases List.mem_append.mp hb with q | q
        · exact s4 b q
        · simp at q; subst q; exact ha2
      · rw [← rowsH_push ha1, s1, show (Src.range d 0 5).items = rangeL 0 5 from rfl, eqP_eq]
        exact HF.Le.cong (HF.Le.newK hd (HF.Le.refl _))
  have hi := range_none (k := 5) hx
  intro t ht
  obtain ⟨ht1, ht2⟩ := rowsH_none ht
  have T : Tab t rs := ⟨by omega, s3, ht1⟩
  show Then _ _ _ _ _ (tabH H t rs (M0 (noneV ways)))
  have hwt : wa ≠ t := fun q => by subst q; rw [hH] at ht2; cases ht2
  have hwr : wa ∉ rs := fun q => by rw [s4 wa q] at hH; cases hH
  walk_at "ev"
  refine EvS_For (σ := Mx) (fun _ => [(Str.ofString "table", .ref t), (Str.ofString "none", .int (noneV ways : Nat))]) (fun M => tabH H t rs M) (fun i M => M = (ways.take i).foldl edgeM (M0 (noneV ways))) rfl ?_
  walk_at "ev"
  refine ⟨.list wa (ways.map wv), rfl, by show tabH H t rs _ wa = _; rw [tabH_other hwt hwr]; exact hH, ⟨_, rfl, (by walk_at "vle"), HF.Le.refl _⟩, fun i M hS => ⟨by show tabH H t rs _ wa = _; rw [tabH_other hwt hwr]; exact hH, fun x hx => ?_, fun hx => ?_⟩⟩
  · obtain ⟨w, hwi, rfl⟩ := map_get hx
    obtain ⟨w1, w2⟩ := hw w (List.mem_of_getElem? hwi)
    unfold wv ti
    dsimp only [List.map]
    walk_at "ev"
    refine sub_tab1 T rfl w1 ?_
    walk_at "ev"
    refine sub_tab2 T rfl w1 w2 ?_
    walk_at "ev"
    refine ⟨trivial, calls_minN ?_⟩
    walk_at "ev"
    refine sub_tab1 T rfl w1 ?_
    walk_at "ev"
    refine set_tab T w1 w2 ?_
    walk_at "ev"
    refine sub_tab1 T rfl w2 ?_
    walk_at "ev"
    refine sub_tab2 T rfl w2 w1 ?_
    walk_at "ev"
    refine ⟨trivial, calls_minN ?_⟩
    walk_at "ev"
    refine sub_tab1 T rfl w2 ?_
    walk_at "ev"
    refine set_tab T w2 w1 ?_
    walk_at "ev"
    refine ⟨_, ?_, (by walk_at "vle"), HF.Le.refl _⟩
    rw [take_succ_of hwi, List.foldl_append, ← hS]
    rfl
  have hi := map_none hx
  rw [List.take_of_length_le hi] at hS
  walk_at "ev"
  refine EvS_For (σ := Mx) (fun _ => [(Str.ofString "table", .ref t), (Str.ofString "none", .int (noneV ways : Nat))]) (fun M => tabH H t rs M) (fun i M' => M' = ((List.range 5).take i).foldl fwM M) rfl ?_
  walk_at "ev"
  refine ⟨trivial, calls_range1 fun c1 hc1 => ?_⟩
  refine ⟨.range c1 0 5, rfl, ⟨HF.set_self .., by decide⟩, ⟨_, rfl, (by walk_at "vle"), HF.Le.new hc1 (HF.Le.refl _)⟩, fun m M1 hS1 => ⟨trivial, fun x hx => ?_, fun hx => ?_⟩⟩
  · obtain ⟨hm, rfl⟩ := range_get (k := 5) hx
    walk_at "ev"
    refine EvS_For (σ := Mx) (fun _ => [(Str.ofString "middle", .int m), (Str.ofString "table", .ref t), (Str.ofString "none", .int (noneV ways : Nat))]) (fun M => tabH H t rs M) (fun i M' => M' = ((List.range 5).take i).foldl (fwI m) M1) rfl ?_
    walk_at "ev"
    refine ⟨trivial, calls_range1 fun c2 hc2 => ?_⟩
    refine ⟨.range c2 0 5, rfl, ⟨HF.set_self .., by decide⟩, ⟨_, rfl, (by walk_at "vle"), HF.Le.new hc2 (HF.Le.refl _)⟩, fun i M2 hS2 => ⟨trivial, fun x hx => ?_, fun hx => ?_⟩⟩
    · obtain ⟨hi, rfl⟩ := range_get (k := 5) hx
      walk_at "ev"
      refine EvS_For (σ := Mx) (fun _ => [(Str.ofString "one", .int i), (Str.ofString "middle", .int m), (Str.ofString "table", .ref t), (Str.ofString "none", .int (noneV ways : Nat))]) (fun M => tabH H t rs M) (fun j M' => M' = ((List.range 5).take j).foldl (fwJ m i) M2) rfl ?_
      walk_at "ev"
      refine ⟨trivial, calls_range1 fun c3 hc3 => ?_⟩
      refine ⟨.range c3 0 5, rfl, ⟨HF.set_self .., by decide⟩, ⟨_, rfl, (by walk_at "vle"), HF.Le.new hc3 (HF.Le.refl _)⟩, fun j M3 hS3 => ⟨trivial, fun x hx => ?_, fun hx => ?_⟩⟩
      · obtain ⟨hj, rfl⟩ := range_get (k := 5) hx
        walk_at "ev"
        refine sub_tab1 T rfl hi ?_
        walk_at "ev"
        refine sub_tab2 T rfl hi hj ?_
        walk_at "ev"
        refine sub_tab1 T rfl hi ?_
        walk_at "ev"
        refine sub_tab2 T rfl hi hm ?_
        walk_at "ev"
        refine sub_tab1 T rfl hm ?_
        walk_at "ev"
        refine sub_tab2 T rfl hm hj ?_
        refine bin_addN rfl ?_
        walk_at "ev"
        refine ⟨trivial, calls_minN ?_⟩
        walk_at "ev"
        refine sub_tab1 T rfl hi ?_
        walk_at "ev"
        refine set_tab T hi hj ?_
        walk_at "ev"
        refine ⟨_, ?_, (by walk_at "vle"), HF.Le.refl _⟩
        rw [take_succ_of (range_take hj), List.foldl_append, ← hS3]
        rfl
      · have hj := range_none (k := 5) hx
        rw [List.take_of_length_le (by simp; exact hj)] at hS3
        walk_at "ev"
        refine ⟨_, ?_, (by walk_at "vle"), HF.Le.refl _⟩
        rw [take_succ_of (range_take hi), List.foldl_append, ← hS2, hS3]
        rfl
    · have hj := range_none (k := 5) hx
      rw [List.take_of_length_le (by simp; exact hj)] at hS2
      walk_at "ev"
      refine ⟨_, ?_, (by walk_at "vle"), HF.Le.refl _⟩
      rw [take_succ_of (range_take hm), List.foldl_append, ← hS1, hS2]
      rfl
  · have hj := range_none (k := 5) hx
    rw [List.take_of_length_le (by simp; exact hj)] at hS1
    walk_at "ev"
    refine ⟨by simp, ?_⟩
    walk_at "ev"
    refine ⟨_, HF.Le.refl _, ?_⟩
    rw [hS1, hS]
    exact h t rs T ht2 s4
end
end
section
open PySem.W (Dat kqdOk)
theorem RDs_map {H : HF} {α : Type} {f : α → PV} {d : α → Dat} : ∀ {l : List α}, (∀ x ∈ l, RD H (f x) (d x)) → RDs H (l.map f) (l.map d)
  | [], _ => .nil
  | x :: r, h => .cons (h x (by simp)) (RDs_map fun y hy => h y (by simp [hy]))
theorem map_inj {α β : Type} {d : α → β} (hd : ∀ x y, d x = d y → x = y) : ∀ {l k : List α}, l.map d = k.map d → l = k
  | [], [], _ => rfl
  | [], _ :: _, h => by cases h
  | _ :: _, [], h => by cases h
  | x :: r, y :: k, h => by
    simp only [List.map_cons, List.cons.injEq] at h
    rw [hd _ _ h.1, map_inj hd h.2]
def dN (x : Nat) : Dat := .int (x : Int)
theorem dN_inj : ∀ x y, dN x = dN y → x = y := fun x y h => by unfold dN at h; injection h with h; exact Int.ofNat.inj h
def dI (x : Int) : Dat := .int x
theorem dI_inj : ∀ x y, dI x = dI y → x = y := fun x y h => by unfold dI at h; injection h
def dT (l : List Int) : Dat := .tuple (l.map dI)
theorem dT_inj : ∀ x y, dT x = dT y → x = y := fun x y h => by unfold dT at h; injection h with h; exact map_inj dI_inj h
theorem rd_ti {H : HF} (l : List Int) : RD H (ti l) (dT l) := RD.tup (RDs_map fun x _ => RD.int x)
theorem rd_ni {H : HF} {a : Addr} {l : List Nat} (h : H a = some (.list (ni l))) : RD H (.ref a) (.list (l.map dN)) := RD.list h (RDs_map fun x _ => RD.int _)
theorem rd_tis {H : HF} {a : Addr} {l : List (List Int)} (h : H a = some (.list (l.map ti))) : RD H (.ref a) (.list (l.map dT)) := RD.list h (RDs_map fun x _ => rd_ti x)
theorem ok_N (l : List Nat) : kqdOk 9 (.list (l.map dN)) = true := by
  simp only [kqdOk, List.all_eq_true]
  intro x hx
  obtain ⟨y, _, rfl⟩ := List.mem_map.mp hx
  rfl
theorem ok_T (k : Nat) (l : List Int) : kqdOk (k + 1) (dT l) = true := by
  unfold dT
  simp only [kqdOk, List.all_eq_true]
  intro x hx
  obtain ⟨y, _, rfl⟩ := List.mem_map.mp hx
  cases k <;> rfl
theorem ok_Ts (l : List (List Int)) (k : Nat) : kqdOk (k + 2) (.list (l.map dT)) = true := by
  simp only [kqdOk, List.all_eq_true]
  intro x hx
  obtain ⟨y, _, rfl⟩ := List.mem_map.mp hx
  exact ok_T k y
section
variable {g : G} {n : Nat} {H : HF} {Q : PV → HF → Prop}
theorem cmp_eq_ni {a b : Addr} {xs ys : List Nat} (h1 : H a = some (.list (ni xs))) (h2 : H b = some (.list (ni ys))) (h : Q (.bool (decide (xs = ys))) H) : CmpO g n .Eq (.ref a) (.ref b) H Q :=
  cmp_eq_data _ (rd_ni h1) (rd_ni h2) (ok_N _) (ok_N _) (by rw [decide_eq_true_eq]; exact ⟨fun e => by rw [e], fun e => by injection e with e; exact map_inj dN_inj e⟩) h
theorem cmp_ne_ni {a b : Addr} {xs ys : List Nat} (h1 : H a = some (.list (ni xs))) (h2 : H b = some (.list (ni ys))) (h : Q (.bool (!decide (xs = ys))) H) : CmpO g n .NotEq (.ref a) (.ref b) H Q :=
  cmp_ne_data _ (rd_ni h1) (rd_ni h2) (ok_N _) (ok_N _) (by rw [decide_eq_true_eq]; exact ⟨fun e => by rw [e], fun e => by injection e with e; exact map_inj dN_inj e⟩) h
theorem cmp_ne_tis {a b : Addr} {xs ys : List (List Int)} (h1 : H a = some (.list (xs.map ti))) (h2 : H b = some (.list (ys.map ti))) (h : Q (.bool (!decide (xs = ys))) H) : CmpO g n .NotEq (.ref a) (.ref b) H Q :=
  cmp_ne_data _ (rd_tis h1) (rd_tis h2) (ok_Ts _ 7) (ok_Ts _ 7) (by rw [decide_eq_true_eq]; exact ⟨fun e => by rw [e], fun e => by injection e with e; exact map_inj dT_inj e⟩) h
def hubQ (M : Mx) (nv place hub : Nat) : Prop := M place hub < nv ∧ ∀ one < hub, M place one + M one hub ≠ M place hub
def higherL (M : Mx) (place hub : Nat) : List Nat := (List.range hub).filter fun one => decide (M place one + M one hub = M place hub)
theorem higher_nil {M : Mx} {place hub : Nat} : higherL M place hub = [] ↔ ∀ one < hub, M place one + M one hub ≠ M place hub := by
  unfold higherL
  rw [List.filter_eq_nil_iff]
  simp
def hub1 (M : Mx) (nv place hub : Nat) : Option (Nat × Nat) := if M place hub < nv ∧ higherL M place hub = [] then some (hub, M place hub) else none
def hubsOf (M : Mx) (nv place : Nat) : List (Nat × Nat) := (List.range 5).filterMap (hub1 M nv place)
def highP (M : Mx) (place hub : Nat) : PV → Option PV
  | .int x => if M place x.toNat + M x.toNat hub = M place hub then some (.int x) else none
  | _ => none
theorem highP_eq (M : Mx) (place hub : Nat) : (rangeL 0 (hub : Int)).filterMap (highP M place hub) = ni (higherL M place hub) := by
  unfold rangeL higherL ni
  rw [List.filterMap_map, Int.sub_zero, Int.toNat_natCast]
  have e : (highP M place hub ∘ fun (k : Nat) => PV.int (0 + (k : Int))) = fun k => if M place k + M k hub = M place hub then some (PV.int (k : Int)) else none := by
    funext k
    show highP M place hub (.int (0 + (k : Int))) = _
    unfold highP
    simp only [Int.zero_add, Int.toNat_natCast]
  rw [e]
  generalize List.range hub = l
  induction l with
  | nil => rfl
  | cons x r ih =>
    by_cases q : M place x + M x hub = M place hub
    · simp only [List.filterMap_cons, List.filter_cons, q, decide_true, if_true, ih, List.map_cons]
    · simp only [List.filterMap_cons, List.filter_cons, q, decide_false, if_false, ih, Bool.false_eq_true]
theorem tabH_setO {H : HF} {t d : Addr} {rs : List Addr} {M : Mx} {l : AO} (h1 : d ≠ t) (h2 : d ∉ rs) : (tabH H t rs M).set d l = tabH (H.set d l) t rs M := by
  funext b
  by_cases q : b = d
  · subst q; rw [HF.set_self, tabH_other h1 h2, HF.set_self]
  · rw [HF.set_other q]
    by_cases q2 : b = t
    · subst q2; rw [tabH_t, tabH_t]
    · by_cases q3 : b ∈ rs
      · unfold tabH
        rw [HF.set_other q2, HF.set_other q2]
        unfold rowsH
        simp only [if_pos q3]
      · rw [tabH_other q2 q3, tabH_other q2 q3, HF.set_other q]
theorem s_hubs (P : Prog g) {t : Addr} {rs : List Addr} {M : Mx} {nv place : Nat} (T : Tab t rs) (hp : place < 5) (h : ∀ d, d ≠ t → d ∉ rs → H d = none → Q (.ref d) ((tabH H t rs M).set d (.list ((hubsOf M nv place).map pr)))) :
    Calls g (n + 1) (.ref 217) [.ref t, .int nv, .int place] [] (tabH H t rs M) Q := by
  refine calls_fnX (P.K 217 _ rfl) rfl rfl rfl (by kernel_rfl) rfl rfl rfl ⟨_, _, _, _, rfl, P.K _ _ rfl, rfl, rfl⟩ (binds3 (x := Str.ofString "table") (y := Str.ofString "none") (z := Str.ofString "place") P.K fun _ _ _ _ => by kernel_rfl) ?_
  walk_at "ev"
  refine ⟨by decide, fun d hd => ?_⟩
  obtain ⟨hdt, hdr, hd0⟩ := tabH_none hd
  have hset : ∀ l, (tabH H t rs M).set d l = tabH (H.set d l) t rs M := fun l => tabH_setO hdt hdr
  have hself : ∀ (K : HF) l, tabH (K.set d l) t rs M d = some l := fun K l => by rw [tabH_other hdt hdr, HF.set_self]
  walk_at "ev"
  refine EvS_For (σ := List (Nat × Nat)) (fun _ => [(Str.ofString "hubs", .ref d), (Str.ofString "table", .ref t), (Str.ofString "none", .int nv), (Str.ofString "place", .int place)]) (fun l => tabH (H.set d (.list (l.map pr))) t rs M)
    (fun i l => l = ((List.range 5).take i).filterMap (hub1 M nv place)) rfl ?_
  walk_at "ev"
  refine ⟨trivial, calls_range1 fun c hc => ?_⟩
  refine ⟨.range c 0 5, rfl, ⟨HF.set_self .., by decide⟩, ⟨[], rfl, (by walk_at "vle"), by rw [← hset]; exact HF.Le.new hc (HF.Le.refl _)⟩, fun i l hS => ⟨trivial, fun x hx => ?_, fun hx => ?_⟩⟩
  · obtain ⟨hi, rfl⟩ := range_get (k := 5) hx
    have hl : l.length ≤ 5 := by
      rw [hS]; exact Nat.le_trans (List.length_filterMap_le ..) (by rw [List.length_take, List.length_range]; omega)
    walk_at "ev"
    refine sub_tab1 T rfl hp ?_
    walk_at "ev"
    refine sub_tab2 T rfl hp hi ?_
    walk_at "ev"
    refine EvS_Comp1 [(Str.ofString "far", .int (M place i : Nat)), (Str.ofString "hub", .int i), (Str.ofString "table", .ref t), (Str.ofString "place", .int place)] (highP M place i) (fun env he => by cases env; cases he; kernel_rfl) (by kernel_rfl) (by kernel_rfl) rfl (by kernel_rfl) ?_
    walk_at "ev"
    refine ⟨trivial, calls_range1 fun e he => ?_⟩
    obtain ⟨het, her, he0⟩ := tabH_none he
    obtain ⟨hed, he0⟩ := HF.set_none he0
    refine ⟨.range e 0 i, rfl, ⟨HF.set_self .., by omega⟩, by show (rangeL 0 (i : Int)).length ≤ _; rw [rangeL_len]; omega, fun j y hy => ?_, fun a ha => ?_⟩
    · obtain ⟨hj, rfl⟩ := range_get (k := i) hy
      have hj5 : j < 5 := by omega
      walk_at "ev"
      refine ⟨vle_new (by kernel_rfl) (Vars.Le.refl _), ?_⟩
      walk_at "ev"
      rw [tabH_setO het her]
      refine sub_tab1 T rfl hp ?_
      walk_at "ev"
      refine sub_tab2 T rfl hp hj5 ?_
      walk_at "ev"
      refine sub_tab1 T rfl hj5 ?_
      walk_at "ev"
      refine sub_tab2 T rfl hj5 hi ?_
      refine bin_addN rfl ?_
      walk_at "ev"
      have e1 : highP M place i (.int (j : Int)) = if M place j + M j i = M place i then some (.int (j : Int)) else none := rfl
      refine ⟨fun hq => ?_, fun hq => ?_⟩
      · have hq : ((M place j + M j i : Nat) : Int) = (M place i : Nat) := eq_of_beq hq
        walk_at "ev"
        exact ⟨HF.Le.refl _, by rw [e1, if_pos (by omega)]⟩
      · have hq : ¬ ((M place j + M j i : Nat) : Int) = (M place i : Nat) := by simpa using hq
        exact ⟨HF.Le.refl _, by rw [e1, if_neg (by omega)]⟩
    · rw [show (Src.range e 0 (i : Int)).items = rangeL 0 (i : Int) from rfl, highP_eq]
      obtain ⟨hae, ha⟩ := HF.set_none ha
      obtain ⟨hat, har, ha0⟩ := tabH_none ha
      obtain ⟨had, ha0⟩ := HF.set_none ha0
      walk_at "ev"
      refine EvS_If ?_
      walk_at "ev"
      refine ⟨fun h1 => ?_, fun h1 => ?_⟩
      · have h1 := of_decide_eq_true h1
        walk_at "ev"
        refine ⟨by decide, fun b hb => ?_⟩
        obtain ⟨hba, hb⟩ := HF.set_none hb
        obtain ⟨hbe, hb⟩ := HF.set_none hb
        refine cmp_eq_ni (xs := higherL M place i) (ys := []) (by rw [HF.set_other (Ne.symm hba), HF.set_self]) (HF.set_self ..) ?_
        have le1 : (tabH (H.set d (.list (l.map pr))) t rs M).Le ((((tabH (H.set d (.list (l.map pr))) t rs M).set e (.range 0 i)).set a (.list (ni (higherL M place i)))).set b (.list [])) :=
          HF.Le.newK hb (HF.Le.newK ha (HF.Le.newK he (HF.Le.refl _)))
        have hstep : ((List.range 5).take (i + 1)).filterMap (hub1 M nv place) = l ++ (hub1 M nv place i).toList := by rw [filterMap_take (range_take hi), hS]
        walk_at "ev"
        refine ⟨fun h2 => ?_, fun h2 => ?_⟩
        · have h2 := of_decide_eq_true h2
          walk_at "ev"
          refine ⟨fun _ => ?_, fun q => (nomatch q)⟩
          walk_at "ev"
          refine ⟨d, _, rfl, le1 _ _ (hself _ _), ?_⟩
          walk_at "ev"
          refine ⟨by simp, ?_⟩
          walk_at "ev"
          refine calls_append (le1 _ _ (hself _ _)) (by rw [List.length_map]; omega) ?_
          walk_at "ev"
          refine ⟨l ++ [(i, M place i)], ?_, (by walk_at "vle"), ?_⟩
          · rw [hstep]
            unfold hub1
            rw [if_pos ⟨by omega, h2⟩]; rfl
          · have e2 : tabH (H.set d (.list ((l ++ [(i, M place i)]).map pr))) t rs M = (tabH (H.set d (.list (l.map pr))) t rs M).set d (.list (l.map pr ++ [.tup [.int i, .int (M place i : Nat)]])) := by
              rw [tabH_setO hdt hdr, HF.set_set, List.map_append]; rfl
            rw [e2]
            exact HF.Le.cong le1
        · have h2 := of_decide_eq_false h2
          refine ⟨fun q => (nomatch q), fun _ => ?_⟩
          walk_at "ev"
          refine ⟨l, ?_, (by walk_at "vle"), le1⟩
          rw [hstep]
          unfold hub1
          rw [if_neg fun q => h2 q.2]; simp
      · have h1 := of_decide_eq_false h1
        refine ⟨fun q => (nomatch q), fun _ => ?_⟩
        walk_at "ev"
        refine ⟨l, ?_, (by walk_at "vle"), HF.Le.newK ha (HF.Le.newK he (HF.Le.refl _))⟩
        rw [filterMap_take (range_take hi), hS]
        unfold hub1
        rw [if_neg fun q => h1 (by have := q.1; omega)]; simp
  · have hj := range_none (k := 5) hx
    rw [List.take_of_length_le (by simp; exact hj)] at hS
    walk_at "ev"
    refine ⟨_, HF.Le.refl _, ?_⟩
    rw [hS]
    have := h d hdt hdr hd0
    rw [hset] at this
    exact this
end
end
section
/-! the search -/
theorem hb_len2 : ∀ m < 4096, (hb m).length ≤ 2 := by
  intro m h
  rw [hb]
  split
  · rw [hb, dif_neg (by omega)]; simp
  · simp
theorem octs_len3 {x : Nat} (h : x < 262144) : (octs x).length ≤ 3 := by
  rw [octs_eq, List.length_append]
  split
  · have := hb_len2 (x / 64) (by omega); simp; omega
  · simp
theorem entB_len {p : Nat × Nat} (h1 : p.1 < 262144) (h2 : p.2 < 262144) : (entB p).length ≤ 8 := by
  have a := octs_len3 h1; have b := octs_len3 h2
  unfold entB
  rw [List.length_append, List.length_replicate, List.length_append]
  omega
theorem labT_len {ps : List (Nat × Nat)} (h : ∀ p ∈ ps, p.1 < 262144 ∧ p.2 < 262144) : (labT ps).length ≤ 8 * ps.length := by
  induction ps with
  | nil => simp [labT]
  | cons p r ih =>
    have h1 := entB_len (h p (by simp)).1 (h p (by simp)).2
    have h2 := ih fun q hq => h q (by simp [hq])
    show (entB p ++ labT r).length ≤ _
    rw [List.length_append, List.length_cons]; omega
abbrev Lab := Nat → List (Nat × Nat)
def texT (ps : List (Nat × Nat)) : PV := .bytes (by8 (enc (labT ps)))
def labs (L : Lab) : List PV := (List.range 5).map fun i => texT (L i)
def setLb (L : Lab) (p : Nat) (x : List (Nat × Nat)) : Lab := fun i => if i = p then x else L i
theorem labs_get (L : Lab) {i : Nat} (h : i < 5) : (labs L)[i]? = some (texT (L i)) := by
  unfold labs; rw [List.getElem?_map, List.getElem?_range h]; rfl
theorem labs_len (L : Lab) : (labs L).length = 5 := by simp [labs]
theorem labs_set (L : Lab) {p : Nat} (x : List (Nat × Nat)) (h : p < 5) : (labs L).set p (texT x) = labs (setLb L p x) := by
  apply List.ext_getElem?
  intro j
  by_cases hj : j < 5
  · rw [labs_get _ hj, List.getElem?_set, labs_get _ hj, labs_len]
    unfold setLb
    by_cases q : p = j
    · subst q; simp [hj]
    · rw [if_neg q, if_neg (Ne.symm q)]
  · rw [List.getElem?_eq_none (by rw [List.length_set, labs_len]; omega), List.getElem?_eq_none (by rw [labs_len]; omega)]
theorem tex_add (ps : List (Nat × Nat)) (q : Nat × Nat) : by8 (enc (labT ps)) ++ by8 (enc (entB q)) = by8 (enc (labT (ps ++ [q]))) := by
  rw [labT_append, enc_append _ _ (labT_len3 ps), by8_append]
  simp [labT]
structure St where
  heap : List (List Int)
  seen : List Nat
  lab : Lab
def popm (h : List (List Int)) : List Int := (hpop h.dropLast (h.getLastD [])).1
def popr (h : List (List Int)) : List (List Int) := (hpop h.dropLast (h.getLastD [])).2
def push1 (p f : Nat) (seen : List Nat) (size : Nat) (h : List (List Int)) (q : Nat × Nat) : List (List Int) :=
  if q.1 = p ∧ q.2 ∉ seen then hpush h [((f + size : Nat) : Int), (q.2 : Int)] else h
def pushW (p f : Nat) (seen : List Nat) (h : List (List Int)) (w : Way) : List (List Int) :=
  [(w.1, w.2.1), (w.2.1, w.1)].foldl (push1 p f seen w.2.2) h
def known (own : List (Nat × Nat)) (ps : List (Nat × Nat)) (f : Nat) : List Nat := (sums own ps).filter fun x => decide (x ≤ f)
def stepS (ways : List Way) (root : Nat) (own : List (Nat × Nat)) (st : St) : St :=
  let f := ((popm st.heap).getD 0 0).toNat
  let p := ((popm st.heap).getD 1 0).toNat
  if p ∈ st.seen then ⟨popr st.heap, st.seen, st.lab⟩
  else if known own (st.lab p) f = [] then ⟨ways.foldl (pushW p f (st.seen ++ [p])) (popr st.heap), st.seen ++ [p], setLb st.lab p (st.lab p ++ [(root, f)])⟩
  else ⟨popr st.heap, st.seen ++ [p], st.lab⟩
structure Wf (ways : List Way) (root : Nat) (st : St) : Prop where
  nd : st.seen.Nodup
  s5 : ∀ x ∈ st.seen, x < 5
  hp : ∀ x ∈ st.heap, ∃ f p : Nat, x = [(f : Int), (p : Int)] ∧ p < 5 ∧ f ≤ 5000 * st.seen.length
  hl : st.heap.length ≤ 1 + 2 * ways.length * st.seen.length
  lab : ∀ i, (st.lab i).length ≤ root + (if i ∈ st.seen then 1 else 0) ∧ ∀ p ∈ st.lab i, p.1 < 5 ∧ p.2 ≤ 25000
theorem nodup5 : ∀ {l : List Nat} {n : Nat}, l.Nodup → (∀ x ∈ l, x < n) → l.length ≤ n := by
  intro l n
  induction n generalizing l with
  | zero =>
    intro _ h
    cases l with
    | nil => simp
    | cons x r => exact absurd (h x (by simp)) (by omega)
  | succ n ih =>
    intro nd h
    have h1 : (l.erase n).length ≤ n := ih (nd.erase n) fun x hx => by
      have h2 := h x (List.mem_of_mem_erase hx)
      have h3 : x ≠ n := fun e => by subst e; exact (List.Nodup.not_mem_erase nd) hx
      omega
    have h4 := List.length_erase (a := n) (l := l)
    split at h4 <;> omega
/-! the heap keeps what it holds -/
theorem perm_cons_set {α : Type} (d : α) : ∀ (ys : List α) (k : Nat) (x : α), k < ys.length → (ys.getD k d :: ys.set k x).Perm (x :: ys)
  | [], k, x, h => by simp at h
  | z :: zs, 0, x, h => by simpa using List.Perm.swap x z zs
  | z :: zs, k + 1, x, h => by
    have ih := perm_cons_set d zs k x (by simpa using h)
    have e : (z :: zs).getD (k + 1) d = zs.getD k d := by simp
    rw [e, List.set_cons_succ]
    exact (List.Perm.swap z _ _).trans ((ih.cons z).trans (List.Perm.swap x z zs))
theorem perm_set {α : Type} (d : α) : ∀ (xs : List α) (i j : Nat) (x : α), i < xs.length → j < xs.length → ((xs.set i (xs.getD j d)).set j x).Perm (xs.set i x)
  | [], i, j, x, h, _ => by simp at h
  | y :: ys, 0, 0, x, h, _ => by simp
  | y :: ys, 0, k + 1, x, h, h2 => by
    have e : (y :: ys).getD (k + 1) d = ys.getD k d := by simp
    rw [e, List.set_cons_zero, List.set_cons_succ, List.set_cons_zero]
    exact perm_cons_set d ys k x (by simpa using h2)
  | y :: ys, k + 1, 0, x, h, _ => by
    have hk : k < ys.length := by simpa using h
    have e : (y :: ys).getD 0 d = y := by simp
    rw [e, List.set_cons_succ, List.set_cons_zero, List.set_cons_succ]
    have := perm_cons_set d (ys.set k y) k x (by simpa using hk)
    have e2 : (ys.set k y).getD k d = y := by simp [hk]
    rw [e2, List.set_set] at this
    exact this.symm
  | y :: ys, i + 1, j + 1, x, h, h2 => by
    have e : (y :: ys).getD (j + 1) d = ys.getD j d := by simp
    rw [e, List.set_cons_succ, List.set_cons_succ, List.set_cons_succ]
    exact (perm_set d ys i j x (by simpa using h) (by simpa using h2)).cons y
theorem sdn_perm : ∀ (xs : List (List Int)) (start pos : Nat) (new : List Int), pos < xs.length → (sdn xs start pos new).Perm (xs.set pos new) := by
  intro xs start pos new
  fun_induction sdn xs start pos new with
  | case1 xs pos h1 h2 ih =>
    intro hp
    have ih := ih (by rw [List.length_set]; omega)
    exact ih.trans (perm_set [] xs pos ((pos - 1) / 2) _ hp (by omega))
  | case2 xs pos h1 h2 => intro _; exact List.Perm.refl _
  | case3 xs pos h1 => intro _; exact List.Perm.refl _
theorem set_getD_set {xs : List (List Int)} {pos : Nat} {x : List Int} : (xs.set pos x).set pos ((xs.set pos x).getD pos []) = xs.set pos x := by
  rw [List.set_set]
  by_cases h : pos < xs.length
  · have : (xs.set pos x).getD pos [] = x := by simp [h]
    rw [this]
  · rw [List.set_eq_of_length_le (by omega), List.set_eq_of_length_le (by omega)]
theorem sup_perm : ∀ (xs : List (List Int)) (start pos : Nat) (new : List Int), pos < xs.length → (sup xs start pos new).Perm (xs.set pos new) := by
  intro xs start pos new
  fun_induction sup xs start pos new with
  | case1 xs pos h ih =>
    intro hp
    have hc := (child_lt h).1
    exact (ih (by rw [List.length_set]; exact hc)).trans (perm_set [] xs pos _ _ hp hc)
  | case2 xs pos h =>
    intro hp
    have := sdn_perm (xs.set pos new) start pos ((xs.set pos new).getD pos []) (by rw [List.length_set]; exact hp)
    rwa [set_getD_set] at this
theorem getD_set_self {xs : List (List Int)} {i : Nat} {x : List Int} (h : i < xs.length) : (xs.set i x).getD i [] = x := by simp [h]
theorem hpush_perm (xs : List (List Int)) (x : List Int) : (hpush xs x).Perm (x :: xs) := by
  unfold hpush
  have := sdn_perm (xs ++ [x]) 0 xs.length ((xs ++ [x]).getD xs.length []) (by simp)
  have e : (xs ++ [x]).getD xs.length [] = x := by simp
  rw [e] at this ⊢
  rw [List.set_append_right _ _ (Nat.le_refl _)] at this
  simp only [Nat.sub_self, List.set_cons_zero] at this
  exact this.trans (List.perm_append_singleton x xs)
theorem split_last {h : List (List Int)} (hne : h ≠ []) : h = h.dropLast ++ [h.getLastD []] := by
  have e2 : h.getLastD [] = h.getLast hne := by
    cases h with
    | nil => exact absurd rfl hne
    | cons x r => rw [List.getLastD_cons, List.getLast_eq_getLastD]
  rw [e2, List.dropLast_concat_getLast hne]
theorem pop_perm {h : List (List Int)} (hne : h ≠ []) : (popm h :: popr h).Perm h := by
  have e := split_last hne
  unfold popm popr hpop
  generalize h.dropLast = xs at *
  generalize h.getLastD [] = l at *
  split
  · rename_i q; rw [e, q]; exact List.Perm.refl _
  · rename_i q
    have hl : 0 < xs.length := List.length_pos_iff.mpr q
    have h1 := sup_perm (xs.set 0 l) 0 0 ((xs.set 0 l).getD 0 []) (by rw [List.length_set]; exact hl)
    rw [set_getD_set] at h1
    rw [e]
    exact (h1.cons _).trans ((perm_cons_set [] xs 0 l hl).trans (List.perm_append_singleton l xs).symm)
theorem popr_len {h : List (List Int)} (hne : h ≠ []) : (popr h).length + 1 = h.length := by
  have := (pop_perm hne).length_eq; simpa using this
theorem push1_mem {p f : Nat} {seen : List Nat} {size : Nat} {h : List (List Int)} {q : Nat × Nat} {x : List Int} (hx : x ∈ push1 p f seen size h q) : x ∈ h ∨ (x = [((f + size : Nat) : Int), (q.2 : Int)] ∧ q.1 = p ∧ q.2 ∉ seen) := by
  unfold push1 at hx
  split at hx
  · rename_i hc
    rcases List.mem_cons.mp ((hpush_perm _ _).mem_iff.mp hx) with e | e
    · exact .inr ⟨e, hc⟩
    · exact .inl e
  · exact .inl hx
theorem push1_len {p f : Nat} {seen : List Nat} {size : Nat} {h : List (List Int)} {q : Nat × Nat} : (push1 p f seen size h q).length ≤ h.length + 1 := by
  unfold push1
  split
  · rw [(hpush_perm _ _).length_eq]; simp
  · omega
theorem pushW_mem {p f : Nat} {seen : List Nat} {h : List (List Int)} {w : Way} {x : List Int} (hx : x ∈ pushW p f seen h w) : x ∈ h ∨ ∃ q, (q = (w.1, w.2.1) ∨ q = (w.2.1, w.1)) ∧ x = [((f + w.2.2 : Nat) : Int), (q.2 : Int)] ∧ q.1 = p ∧ q.2 ∉ seen := by
  unfold pushW at hx
  simp only [List.foldl_cons, List.foldl_nil] at hx
  rcases push1_mem hx with e | e
  · rcases push1_mem e with e | e
    · exact .inl e
    · exact .inr ⟨_, .inl rfl, e⟩
  · exact .inr ⟨_, .inr rfl, e⟩
theorem pushW_len {p f : Nat} {seen : List Nat} {h : List (List Int)} {w : Way} : (pushW p f seen h w).length ≤ h.length + 2 := by
  unfold pushW
  simp only [List.foldl_cons, List.foldl_nil]
  have h1 := push1_len (p := p) (f := f) (seen := seen) (size := w.2.2) (h := h) (q := (w.1, w.2.1))
  have h2 := push1_len (p := p) (f := f) (seen := seen) (size := w.2.2) (h := push1 p f seen w.2.2 h (w.1, w.2.1)) (q := (w.2.1, w.1))
  omega
theorem pushes_mem {p f : Nat} {seen : List Nat} : ∀ {ways : List Way} {h : List (List Int)} {x : List Int}, x ∈ ways.foldl (pushW p f seen) h → x ∈ h ∨ ∃ w ∈ ways, ∃ q, (q = (w.1, w.2.1) ∨ q = (w.2.1, w.1)) ∧ x = [((f + w.2.2 : Nat) : Int), (q.2 : Int)] ∧ q.1 = p ∧ q.2 ∉ seen
  | [], h, x, hx => .inl hx
  | w :: ways, h, x, hx => by
    rw [List.foldl_cons] at hx
    rcases pushes_mem hx with e | ⟨w', hw', r⟩
    · rcases pushW_mem e with e | r
      · exact .inl e
      · exact .inr ⟨w, by simp, r⟩
    · exact .inr ⟨w', by simp [hw'], r⟩
theorem pushes_len {p f : Nat} {seen : List Nat} : ∀ {ways : List Way} {h : List (List Int)}, (ways.foldl (pushW p f seen) h).length ≤ h.length + 2 * ways.length
  | [], h => by simp
  | w :: ways, h => by
    rw [List.foldl_cons, List.length_cons]
    have h1 := pushes_len (p := p) (f := f) (seen := seen) (ways := ways) (h := pushW p f seen h w)
    have h2 := pushW_len (p := p) (f := f) (seen := seen) (h := h) (w := w)
    omega
def Way5s (ways : List Way) : Prop := ∀ w ∈ ways, w.1 < 5 ∧ w.2.1 < 5 ∧ w.2.2 < 5000
theorem Wf.pop {ways : List Way} {root : Nat} {st : St} (W : Wf ways root st) (hne : st.heap ≠ []) : ∃ f p : Nat, popm st.heap = [(f : Int), (p : Int)] ∧ p < 5 ∧ f ≤ 5000 * st.seen.length :=
  W.hp _ ((pop_perm hne).mem_iff.mp (by simp))
theorem Wf.step {ways : List Way} {root : Nat} {own : List (Nat × Nat)} {st : St} (hw : Way5s ways) (hr : root < 5) (W : Wf ways root st) (hne : st.heap ≠ []) : Wf ways root (stepS ways root own st) := by
  obtain ⟨f, p, e, hp5, hf⟩ := W.pop hne
  have hpr := pop_perm hne
  have hl := popr_len hne
  have hmem : ∀ x ∈ popr st.heap, x ∈ st.heap := fun x hx => hpr.mem_iff.mp (by simp [hx])
  have h0 : ((popm st.heap).getD 0 0).toNat = f := by rw [e]; simp
  have h1 : ((popm st.heap).getD 1 0).toNat = p := by rw [e]; simp
  unfold stepS
  simp only [h0, h1]
  split
  · exact ⟨W.nd, W.s5, fun x hx => W.hp x (hmem x hx), by have := W.hl; simp only; omega, W.lab⟩
  · rename_i hns
    have nd' : (st.seen ++ [p]).Nodup := by
      rw [List.nodup_append]
      exact ⟨W.nd, by simp, fun a ha b hb => by simp at hb; subst hb; exact fun q => hns (q ▸ ha)⟩
    have s5' : ∀ x ∈ st.seen ++ [p], x < 5 := fun x hx => by
      rcases List.mem_append.mp hx with q | q
      · exact W.s5 x q
      · simp at q; omega
    have hsl := nodup5 nd' s5'
    rw [List.length_append, List.length_singleton] at hsl
    have hmul : 2 * ways.length * (st.seen.length + 1) = 2 * ways.length * st.seen.length + 2 * ways.length := by rw [Nat.mul_add, Nat.mul_one]
    have hlab : ∀ i, i ≠ p → (st.lab i).length ≤ root + (if i ∈ st.seen ++ [p] then 1 else 0) := fun i hi => by
      have := (W.lab i).1
      by_cases q : i ∈ st.seen
      · rw [if_pos q] at this; rw [if_pos (by simp [q])]; exact this
      · rw [if_neg q] at this; omega
    have hlp : (st.lab p).length ≤ root := by have := (W.lab p).1; rw [if_neg hns] at this; omega
    split
    · refine ⟨nd', s5', fun x hx => ?_, ?_, fun i => ?_⟩
      · simp only [List.length_append, List.length_singleton]
        rcases pushes_mem hx with q | ⟨w, hwm, q, hq, rfl, _, _⟩
        · obtain ⟨f', p', e', a, b⟩ := W.hp x (hmem x q)
          exact ⟨f', p', e', a, by omega⟩
        · obtain ⟨w1, w2, w3⟩ := hw w hwm
          refine ⟨f + w.2.2, q.2, rfl, ?_, by omega⟩
          rcases hq with rfl | rfl <;> assumption
      · have a := pushes_len (p := p) (f := f) (seen := st.seen ++ [p]) (ways := ways) (h := popr st.heap)
        have b := W.hl
        simp only [List.length_append, List.length_singleton]
        omega
      · unfold setLb
        simp only
        by_cases q : i = p
        · subst q
          rw [if_pos rfl, if_pos (by simp), List.length_append, List.length_singleton]
          refine ⟨by omega, fun z hz => ?_⟩
          rcases List.mem_append.mp hz with y | y
          · exact (W.lab i).2 z y
          · simp at y; subst y; exact ⟨hr, by simp only; omega⟩
        · rw [if_neg q]; exact ⟨hlab i q, (W.lab i).2⟩
    · refine ⟨nd', s5', fun x hx => ?_, ?_, fun i => ⟨?_, (W.lab i).2⟩⟩
      · simp only [List.length_append, List.length_singleton]
        obtain ⟨f', p', e', a, b⟩ := W.hp x (hmem x hx)
        exact ⟨f', p', e', a, by omega⟩
      · have b := W.hl
        simp only [List.length_append, List.length_singleton]
        omega
      · by_cases q : i = p
        · subst q; simp only; omega
        · exact hlab i q
end
section
/-- four lists of ours -/
def S4 (H : HF) (oa ha sa la : Addr) (x y z w : AO) : HF := (((H.set oa x).set ha y).set sa z).set la w
structure D4 (oa ha sa la : Addr) : Prop where
  oh : oa ≠ ha
  os : oa ≠ sa
  ol : oa ≠ la
  hs : ha ≠ sa
  hl : ha ≠ la
  sl : sa ≠ la
section
variable {H : HF} {oa ha sa la : Addr} {x y z w v : AO}
theorem D4.o (D : D4 oa ha sa la) : S4 H oa ha sa la x y z w oa = some x := by unfold S4; rw [HF.set_other D.ol, HF.set_other D.os, HF.set_other D.oh, HF.set_self]
theorem D4.h (D : D4 oa ha sa la) : S4 H oa ha sa la x y z w ha = some y := by unfold S4; rw [HF.set_other D.hl, HF.set_other D.hs, HF.set_self]
theorem D4.s (D : D4 oa ha sa la) : S4 H oa ha sa la x y z w sa = some z := by unfold S4; rw [HF.set_other D.sl, HF.set_self]
theorem D4.l (D : D4 oa ha sa la) : S4 H oa ha sa la x y z w la = some w := by unfold S4; rw [HF.set_self]
theorem S4_other {b : Addr} (h1 : b ≠ oa) (h2 : b ≠ ha) (h3 : b ≠ sa) (h4 : b ≠ la) : S4 H oa ha sa la x y z w b = H b := by unfold S4; rw [HF.set_other h4, HF.set_other h3, HF.set_other h2, HF.set_other h1]
theorem D4.seth (D : D4 oa ha sa la) : (S4 H oa ha sa la x y z w).set ha v = S4 H oa ha sa la x v z w := by
  unfold S4; rw [HF.set_comm (Ne.symm D.hl), HF.set_comm (Ne.symm D.hs), HF.set_set]
theorem D4.sets (D : D4 oa ha sa la) : (S4 H oa ha sa la x y z w).set sa v = S4 H oa ha sa la x y v w := by
  unfold S4; rw [HF.set_comm (Ne.symm D.sl), HF.set_set]
theorem D4.setl (D : D4 oa ha sa la) : (S4 H oa ha sa la x y z w).set la v = S4 H oa ha sa la x y z v := by
  unfold S4; rw [HF.set_set]
theorem le_none {K G : HF} (k : K.Le G) {b : Addr} (h : G b = none) : K b = none := by
  cases e : K b with
  | none => rfl
  | some u => rw [k _ _ e] at h; cases h
end
theorem EvSs.weak {c : Cx} {e : List Stmt} {m m' : Vars} {H H' : HF} {Q : Fl → Vars → HF → Prop} (km : Vars.Le m' m) (k : HF.Le H' H) (h : EvSs c e m' H' Q) : EvSs c e m H Q := EvM.weak km k h
section
variable {g : G} {n : Nat} {H : HF} {Q : PV → HF → Prop}
theorem cmp_notinN {a : Addr} {x : Nat} {l : List Nat} (hH : H a = some (.list (ni l))) (h : Q (.bool (!decide (x ∈ l))) H) : CmpO g n .NotIn (.int x) (.ref a) H Q := by
  rw [ni_eq] at hH
  refine cmp_notin hH ?_
  have e : (l.map fun (y : Nat) => (y : Int)).contains (x : Int) = decide (x ∈ l) := by
    rw [Bool.eq_iff_iff, List.contains_iff_mem, decide_eq_true_eq]
    constructor
    · intro q
      obtain ⟨y, hy, e⟩ := List.mem_map.mp q
      have : y = x := by omega
      subst this; exact hy
    · intro q
      exact List.mem_map.mpr ⟨x, q, rfl⟩
  rw [e]; exact h
def leP (f : Nat) : PV → Option PV
  | .int x => if x ≤ (f : Int) then some (.int x) else none
  | _ => none
theorem leP_eq (f : Nat) (l : List Nat) : (ni l).filterMap (leP f) = ni (l.filter fun x => decide (x ≤ f)) := by
  induction l with
  | nil => rfl
  | cons x r ih =>
    have e : leP f (.int (x : Int)) = if x ≤ f then some (.int (x : Int)) else none := by
      show (if (x : Int) ≤ (f : Int) then some (PV.int (x : Int)) else none) = _
      by_cases q : x ≤ f
      · rw [if_pos q, if_pos (by omega)]
      · rw [if_neg q, if_neg (by omega)]
    show ((PV.int (x : Int)) :: ni r).filterMap (leP f) = _
    rw [List.filterMap_cons, e, List.filter_cons]
    by_cases q : x ≤ f
    · simp only [q, if_true, decide_true, ih]; rfl
    · simp only [q, if_false, decide_false, ih, Bool.false_eq_true]
theorem Wf.lens {ways : List Way} {root : Nat} {st : St} (W : Wf ways root st) : Lens 2 st.heap := fun x hx => by
  obtain ⟨f, p, e, _⟩ := W.hp x hx; rw [e]; rfl
theorem hpush_lens {k : Nat} {xs : List (List Int)} {x : List Int} (h : Lens k xs) (hx : x.length = k) : Lens k (hpush xs x) := fun y hy => by
  rcases List.mem_cons.mp ((hpush_perm _ _).mem_iff.mp hy) with e | e
  · subst e; exact hx
  · exact h y e
theorem push1_lens {p f : Nat} {seen : List Nat} {size : Nat} {h : List (List Int)} {q : Nat × Nat} (hl : Lens 2 h) : Lens 2 (push1 p f seen size h q) := by
  unfold push1
  split
  · exact hpush_lens hl rfl
  · exact hl
theorem s_search (P : Prog g) {wa la : Addr} {ways : List Way} {root : Nat} {L : Lab} (hw : H wa = some (.list (ways.map wv))) (hw5 : Way5s ways) (hwl : ways.length ≤ 7) (hr : root < 5) (hl : H la = some (.list (labs L))) (hlb : ∀ i, (L i).length ≤ root ∧ ∀ p ∈ L i, p.1 < 5 ∧ p.2 ≤ 25000)
    (J : St → Prop) (h0 : J ⟨[[0, (root : Int)]], [], L⟩) (hstep : ∀ st, J st → st.heap ≠ [] → J (stepS ways root (L root) st)) (hend : ∀ st, J st → st.heap = [] → Q .none (H.set la (.list (labs st.lab)))) :
    Calls g (n + 5) (.ref 207) [.ref wa, .ref la, .int root] [] H Q := by
  refine calls_fnX (P.K 207 _ rfl) rfl rfl rfl (by kernel_rfl) rfl rfl rfl ⟨_, _, _, _, rfl, P.K _ _ rfl, rfl, rfl⟩ (binds3 (x := Str.ofString "ways") (y := Str.ofString "labels") (z := Str.ofString "root") P.K fun _ _ _ _ => by kernel_rfl) ?_
  have hlt : ∀ {ps : List (Nat × Nat)}, (∀ p ∈ ps, p.1 < 5 ∧ p.2 ≤ 25000) → ps.length ≤ 6 → (labT ps).length ≤ 40000 := fun {ps} h1 h2 => by
    have := labT_len (ps := ps) fun p hp => by have := h1 p hp; omega
    omega
  have hb40 : ∀ {ps : List (Nat × Nat)}, (∀ p ∈ ps, p.1 < 5 ∧ p.2 ≤ 25000) → ∀ p ∈ ps, p.1 < 2 ^ 40 ∧ p.2 < 2 ^ 40 := fun {ps} h1 p hp => by have := h1 p hp; omega
  walk_at "ev"
  refine sub_listN rfl hl (by omega) (labs_get L hr) ?_
  walk_at "ev"
  have hr1 := hlb root
  refine ⟨⟨_, _, P.K 197 _ rfl, rfl⟩, s_label P (hlt hr1.2 (by omega)) (by omega) (hb40 hr1.2) fun oa hoa => ?_⟩
  walk_at "ev"
  refine ⟨by simp, ?_⟩
  walk_at "ev"
  refine ⟨by simp, fun ha hha => ?_⟩
  obtain ⟨hho, hha⟩ := HF.set_none hha
  walk_at "ev"
  refine ⟨by simp, fun sa hsa => ?_⟩
  obtain ⟨hsh, hsa⟩ := HF.set_none hsa
  obtain ⟨hso, hsa⟩ := HF.set_none hsa
  have hlo : la ≠ oa := fun q => by subst q; rw [hl] at hoa; cases hoa
  have hlh : la ≠ ha := fun q => by subst q; rw [hl] at hha; cases hha
  have hls : la ≠ sa := fun q => by subst q; rw [hl] at hsa; cases hsa
  have D : D4 oa ha sa la := ⟨Ne.symm hho, Ne.symm hso, Ne.symm hlo, Ne.symm hsh, Ne.symm hlh, Ne.symm hls⟩
  have hwla : wa ≠ la := fun q => by
    subst q; rw [hw] at hl
    simp only [Option.some.injEq, AO.list.injEq] at hl
    have := congrArg (fun l => l[0]?) hl
    simp only [labs_get L (show 0 < 5 by decide), List.getElem?_map] at this
    cases e : ways[0]? with
    | none => rw [e] at this; cases this
    | some w => rw [e] at this; simp [wv, ti, texT] at this
  have hwo : wa ≠ oa := fun q => by subst q; rw [hw] at hoa; cases hoa
  have hwh : wa ≠ ha := fun q => by subst q; rw [hw] at hha; cases hha
  have hws : wa ≠ sa := fun q => by subst q; rw [hw] at hsa; cases hsa
  have kw : ∀ x y z w, S4 H oa ha sa la x y z w wa = some (.list (ways.map wv)) := fun x y z w => by rw [S4_other hwo hwh hws hwla]; exact hw
  walk_at "ev"
  refine EvS_While (σ := St) (fun _ => [(Str.ofString "seen", .ref sa), (Str.ofString "heap", .ref ha), (Str.ofString "own", .ref oa), (Str.ofString "ways", .ref wa), (Str.ofString "labels", .ref la), (Str.ofString "root", .int root)])
    (fun st => S4 H oa ha sa la (.list ((L root).map pr)) (.list (st.heap.map ti)) (.list (ni st.seen)) (.list (labs st.lab))) (fun st => J st ∧ Wf ways root st) (fun st => st.heap.length + (5 - st.seen.length) * (2 * ways.length + 1))
    ⟨⟨[[0, (root : Int)]], [], L⟩, ⟨h0, ⟨List.nodup_nil, by simp, fun x hx => ?_, by simp, fun i => ?_⟩⟩, (by walk_at "vle"), ?_⟩ ?_
  · simp only [List.mem_singleton] at hx
    exact ⟨0, root, hx, hr, by omega⟩
  · have := hlb i
    simp only [List.not_mem_nil, if_false]
    exact this
  · unfold S4
    intro b u e
    by_cases q : b = la
    · subst q
      rw [HF.set_self] at e
      rw [HF.set_other hls, HF.set_other hlh, HF.set_other hlo, hl, ← e]
    · rw [HF.set_other q] at e; exact e
  · rintro st ⟨hJ, W⟩
    walk_at "ev"
    refine ⟨by simp, fun b hb => ?_⟩
    refine cmp_ne_tis (xs := st.heap) (ys := []) ((HF.Le.new hb (HF.Le.refl _)) _ _ D.h) (HF.set_self ..) ?_
    walk_at "ev"
    refine ⟨fun ht => ?_, fun ht => ?_⟩
    · have hne : st.heap ≠ [] := by simpa using ht
      refine EvSs.weak (Vars.Le.refl _) (HF.Le.new hb (HF.Le.refl _)) ?_
      obtain ⟨f, p, hm, hp5, hf⟩ := W.pop hne
      have hstepJ := hstep st hJ hne
      have hstepW : Wf ways root (stepS ways root (L root) st) := W.step hw5 hr hne
      have hsl := nodup5 W.nd W.s5
      have hhl := W.hl
      have hhb : st.heap.length ≤ 71 := by
        have : 2 * ways.length * st.seen.length ≤ 14 * 5 := Nat.mul_le_mul (by omega) hsl
        omega
      have hpl := popr_len hne
      have esplit := split_last hne
      have g0 : ((popm st.heap).getD 0 0).toNat = f := by rw [hm]; simp
      have g1 : ((popm st.heap).getD 1 0).toNat = p := by rw [hm]; simp
      have hlens := W.lens
      have hpr := pop_perm hne
      have hlensr : Lens 2 (popr st.heap) := fun x hx => hlens x (hpr.mem_iff.mp (by simp [hx]))
      walk_at "ev"
      refine ⟨⟨_, _, P.K 35 _ rfl, rfl⟩, s_heappop P (xs := st.heap.dropLast) (l := st.heap.getLastD []) (k := 2) (by rw [← esplit]; exact D.h) (by rw [List.length_dropLast]; omega) (by rw [← esplit]; exact hlens) ?_⟩
      rw [show (hpop st.heap.dropLast (st.heap.getLastD [])).1 = [(f : Int), (p : Int)] from hm, show (hpop st.heap.dropLast (st.heap.getLastD [])).2 = popr st.heap from rfl, D.seth]
      rw [show ti [(f : Int), (p : Int)] = .tup [.int f, .int p] from rfl]
      walk_at "ev"
      refine EvS_If ?_
      walk_at "ev"
      refine cmp_notinN D.s ?_
      walk_at "ev"
      refine ⟨fun hns => ?_, fun hns => ?_⟩
      · have hns : p ∉ st.seen := by simpa using hns
        have hs4 : st.seen.length + 1 ≤ 5 := by
          have : (st.seen ++ [p]).length ≤ 5 := nodup5 (by
            rw [List.nodup_append]
            exact ⟨W.nd, by simp, fun a ha b hb => by simp at hb; subst hb; exact fun q => hns (q ▸ ha)⟩) fun x hx => by
              rcases List.mem_append.mp hx with q | q
              · exact W.s5 x q
              · simp at q; omega
          simpa using this
        have hf2 : f ≤ 25000 := by omega
        have hlabp := W.lab p
        rw [if_neg hns] at hlabp
        obtain ⟨t, ht5⟩ : ∃ t, 5 - st.seen.length = t + 1 := ⟨5 - st.seen.length - 1, by omega⟩
        have hmu : ∀ (h' : List (List Int)), h'.length ≤ (popr st.heap).length + 2 * ways.length → h'.length + (5 - (st.seen ++ [p]).length) * (2 * ways.length + 1) < st.heap.length + (5 - st.seen.length) * (2 * ways.length + 1) := fun h' hh => by
          have e1 : 5 - (st.seen ++ [p]).length = t := by rw [List.length_append, List.length_singleton]; omega
          obtain ⟨K, hK⟩ : ∃ K, K = 2 * ways.length + 1 := ⟨_, rfl⟩
          have e2 : (t + 1) * K = t * K + K := Nat.succ_mul t K
          rw [e1, ht5, ← hK, e2]
          omega
        walk_at "ev"
        refine ⟨sa, _, rfl, D.s, ?_⟩
        walk_at "ev"
        refine calls_append D.s (by rw [ni_length]; omega) ?_
        rw [D.sets, show ni st.seen ++ [PV.int (p : Int)] = ni (st.seen ++ [p]) by rw [ni_append]; rfl]
        walk_at "ev"
        refine EvS_If ?_
        walk_at "ev"
        refine EvE_Comp1 [(Str.ofString "far", .int f)] (leP f) (by kernel_rfl) rfl (by kernel_rfl) ?_
        walk_at "ev"
        refine sub_listN rfl D.l (by omega) (labs_get st.lab hp5) ?_
        walk_at "ev"
        refine ⟨⟨_, _, P.K 197 _ rfl, rfl⟩, s_label P (hlt hlabp.2 (by omega)) (by omega) (hb40 hlabp.2) fun lb hlb2 => ?_⟩
        walk_at "ev"
        have le1 := HF.Le.new (x := .list ((st.lab p).map pr)) hlb2 (HF.Le.refl _)
        refine ⟨⟨_, _, P.K 202 _ rfl, rfl⟩, s_sums P (ps := L root) (qs := st.lab p) (le1 _ _ D.o) (HF.set_self ..) (by omega) (by omega) fun sb hsb => ?_⟩
        have le2 := HF.Le.newK (x := .list (ni (sums (L root) (st.lab p)))) (le_none le1 hsb) le1
        have hsums := sums_len (L root) (st.lab p)
        have hsums2 : (L root).length * (st.lab p).length ≤ 4 * 4 := Nat.mul_le_mul (by omega) (by omega)
        refine ⟨.list sb (ni (sums (L root) (st.lab p))), rfl, HF.set_self .., by show (ni _).length ≤ _; rw [ni_length]; omega, fun i x hx => ?_, fun kb hkb => ?_⟩
        · obtain ⟨v, hv, rfl⟩ := ni_get hx
          have e1 : leP f (.int (v : Int)) = if (v : Int) ≤ (f : Int) then some (.int (v : Int)) else none := rfl
          walk_at "ev"
          refine ⟨vle_new (by kernel_rfl) (Vars.Le.refl _), ?_⟩
          walk_at "ev"
          refine ⟨fun hq => ?_, fun hq => ?_⟩
          · have hq := of_decide_eq_true hq
            walk_at "ev"
            exact ⟨HF.Le.refl _, by rw [e1, if_pos hq]⟩
          · have hq := of_decide_eq_false hq
            exact ⟨HF.Le.refl _, by rw [e1, if_neg hq]⟩
        rw [show (Src.list sb (ni (sums (L root) (st.lab p)))).items = ni (sums (L root) (st.lab p)) from rfl, leP_eq]
        have le3 := HF.Le.newK (x := .list (ni (known (L root) (st.lab p) f))) (le_none le2 hkb) le2
        walk_at "ev"
        refine ⟨by simp, fun eb heb => ?_⟩
        have le4 := HF.Le.newK (x := .list []) (le_none le3 heb) le3
        refine cmp_eq_ni (xs := known (L root) (st.lab p) f) (ys := []) (by rw [HF.set_other (fun q => by subst q; rw [HF.set_self] at heb; cases heb), HF.set_self]; rfl) (HF.set_self ..) ?_
        walk_at "ev"
        refine ⟨fun hk => ?_, fun hk => ?_⟩
        · have hk : known (L root) (st.lab p) f = [] := of_decide_eq_true hk
          refine EvSs.weak (Vars.Le.refl _) le4 ?_
          have est : stepS ways root (L root) st = ⟨ways.foldl (pushW p f (st.seen ++ [p])) (popr st.heap), st.seen ++ [p], setLb st.lab p (st.lab p ++ [(root, f)])⟩ := by
            unfold stepS; simp only [g0, g1]; rw [if_neg hns, if_pos hk]
          rw [est] at hstepJ hstepW
          have hent : (entB (root, f)).length ≤ 8 := entB_len (by simp only; omega) (by simp only; omega)
          walk_at "ev"
          refine sub_listN rfl D.l (by omega) (labs_get st.lab hp5) ?_
          walk_at "ev"
          refine ⟨⟨_, _, P.K 190 _ rfl, rfl⟩, s_entry P (x := root) (y := f) (by omega) (by omega) (by omega) ?_⟩
          have hby : (by8 (enc (labT (st.lab p)))).length + (by8 (enc (entB (root, f)))).length ≤ 100000 := by
            rw [by8_length, by8_length]
            have a1 := enc_len (labT (st.lab p)); have a2 := enc_len (entB (root, f))
            have a3 := labT_len (ps := st.lab p) fun q hq => by have := hlabp.2 q hq; omega
            omega
          refine bin_addB hby ?_
          rw [tex_add]
          walk_at "ev"
          refine set_listN (p := texT (st.lab p ++ [(root, f)])) D.l (by rw [labs_len]; exact hp5) (by rw [labs_len]; omega) ?_
          rw [labs_set _ _ hp5, D.setl]
          walk_at "ev"
          refine EvS_For (σ := List (List Int)) (fun _ => [(Str.ofString "place", .int p), (Str.ofString "far", .int f), (Str.ofString "seen", .ref sa), (Str.ofString "heap", .ref ha), (Str.ofString "own", .ref oa), (Str.ofString "ways", .ref wa), (Str.ofString "labels", .ref la), (Str.ofString "root", .int root)])
            (fun h' => S4 H oa ha sa la (.list ((L root).map pr)) (.list (h'.map ti)) (.list (ni (st.seen ++ [p]))) (.list (labs (setLb st.lab p (st.lab p ++ [(root, f)]))))) (fun i h' => h' = (ways.take i).foldl (pushW p f (st.seen ++ [p])) (popr st.heap) ∧ Lens 2 h') rfl ?_
          walk_at "ev"
          refine ⟨.list wa (ways.map wv), rfl, kw .., ⟨_, ⟨rfl, hlensr⟩, (by walk_at "vle"), HF.Le.refl _⟩, fun i h1 ⟨hS, hL1⟩ => ⟨kw .., fun x hx => ?_, fun hx => ?_⟩⟩
          · obtain ⟨w, hwi, rfl⟩ := map_get hx
            have hS2 : (ways.take (i + 1)).foldl (pushW p f (st.seen ++ [p])) (popr st.heap) = pushW p f (st.seen ++ [p]) h1 w := by rw [take_succ_of hwi, List.foldl_append, ← hS]; rfl
            have hh1 : h1.length ≤ 100 := by
              have a1 := pushes_len (p := p) (f := f) (seen := st.seen ++ [p]) (ways := ways.take i) (h := popr st.heap)
              rw [← hS, List.length_take] at a1
              omega
            rw [show wv w = .tup [.int w.1, .int w.2.1, .int w.2.2] from rfl]
            walk_at "ev"
            have qs : ∀ (j : Nat) (q : Nat × Nat), [(w.1, w.2.1), (w.2.1, w.1)][j]? = some q → q.2 < 5 := fun j q hq => by
              have := hw5 w (List.mem_of_getElem? hwi)
              have := List.mem_of_getElem? hq
              simp only [List.mem_cons, List.not_mem_nil, or_false] at this
              rcases this with rfl | rfl <;> simp only <;> omega
            refine EvS_ForS (σ := List (List Int)) (fun _ _ => [(Str.ofString "size", .int w.2.2), (Str.ofString "place", .int p), (Str.ofString "far", .int f), (Str.ofString "seen", .ref sa), (Str.ofString "heap", .ref ha), (Str.ofString "own", .ref oa), (Str.ofString "ways", .ref wa), (Str.ofString "labels", .ref la), (Str.ofString "root", .int root)])
              (fun src h' => match src with
                | .list e ys => (S4 H oa ha sa la (.list ((L root).map pr)) (.list (h'.map ti)) (.list (ni (st.seen ++ [p]))) (.list (labs (setLb st.lab p (st.lab p ++ [(root, f)]))))).set e (.list ys)
                | _ => H)
              (fun src j h' => h' = ([(w.1, w.2.1), (w.2.1, w.1)].take j).foldl (push1 p f (st.seen ++ [p]) w.2.2) h1 ∧ Lens 2 h') rfl ?_
            walk_at "ev"
            refine ⟨by simp, ?_⟩
            walk_at "ev"
            refine ⟨by simp, ?_⟩
            walk_at "ev"
            refine ⟨by simp, fun e he => ?_⟩
            have heha : e ≠ ha := fun q => by subst q; rw [D.h] at he; cases he
            have heoa : e ≠ oa := fun q => by subst q; rw [D.o] at he; cases he
            have hela : e ≠ la := fun q => by subst q; rw [D.l] at he; cases he
            have hesa : e ≠ sa := fun q => by subst q; rw [D.s] at he; cases he
            have he0 : H e = none := by rw [S4_other heoa heha hesa hela] at he; exact he
            refine ⟨.list e ([(w.1, w.2.1), (w.2.1, w.1)].map fun q => .tup [.int q.1, .int q.2]), rfl, (show HF.set _ e (.list [_, _]) e = some (.list [_, _]) from HF.set_self ..), ⟨h1, ⟨rfl, hL1⟩, (by walk_at "vle"), HF.Le.refl _⟩, fun j h2 ⟨hSj, hL2⟩ => ⟨HF.set_self .., fun y hy => ?_, fun hy => ?_⟩⟩
            · obtain ⟨q, hqj, rfl⟩ := map_get hy
              have hq5 := qs j q hqj
              have hS3 : ([(w.1, w.2.1), (w.2.1, w.1)].take (j + 1)).foldl (push1 p f (st.seen ++ [p]) w.2.2) h1 = push1 p f (st.seen ++ [p]) w.2.2 h2 q := by rw [take_succ_of hqj, List.foldl_append, ← hSj]; rfl
              have hj : j < 2 := by
                rcases Nat.lt_or_ge j 2 with z | z
                · exact z
                · rw [List.getElem?_eq_none (by simpa using z)] at hqj; cases hqj
              have hh2 : h2.length ≤ 110 := by
                rw [hSj]
                have a0 := push1_len (p := p) (f := f) (seen := st.seen ++ [p]) (size := w.2.2) (h := h1) (q := (w.1, w.2.1))
                rcases j with _ | _ | j
                · show h1.length ≤ _; omega
                · show (push1 p f (st.seen ++ [p]) w.2.2 h1 (w.1, w.2.1)).length ≤ _; omega
                · omega
              walk_at "ev"
              refine EvS_If ?_
              walk_at "ev"
              have kget : ∀ b x, b ≠ e → S4 H oa ha sa la (.list ((L root).map pr)) (.list (h2.map ti)) (.list (ni (st.seen ++ [p]))) (.list (labs (setLb st.lab p (st.lab p ++ [(root, f)])))) b = some x →
                  ((S4 H oa ha sa la (.list ((L root).map pr)) (.list (h2.map ti)) (.list (ni (st.seen ++ [p]))) (.list (labs (setLb st.lab p (st.lab p ++ [(root, f)]))))).set e (.list ([(w.1, w.2.1), (w.2.1, w.1)].map fun q => .tup [.int q.1, .int q.2]))) b = some x := fun b x hbe hx => by rw [HF.set_other hbe]; exact hx
              have stay : push1 p f (st.seen ++ [p]) w.2.2 h2 q = h2 → ∃ st_1, (st_1 = ([(w.1, w.2.1), (w.2.1, w.1)].take (j + 1)).foldl (push1 p f (st.seen ++ [p]) w.2.2) h1 ∧ Lens 2 st_1) ∧ st_1 = h2 := fun q2 => ⟨h2, ⟨by rw [hS3, q2], hL2⟩, rfl⟩
              refine ⟨fun hq1 => ?_, fun hq1 => ?_⟩
              · have hq1 : (q.1 : Int) = p := eq_of_beq hq1
                walk_at "ev"
                refine cmp_notinN (kget _ _ (Ne.symm hesa) D.s) ?_
                walk_at "ev"
                refine ⟨fun hq2 => ?_, fun hq2 => ?_⟩
                · have hq2 : q.2 ∉ st.seen ++ [p] := by simpa using hq2
                  have hpu : push1 p f (st.seen ++ [p]) w.2.2 h2 q = hpush h2 [((f + w.2.2 : Nat) : Int), (q.2 : Int)] := by unfold push1; rw [if_pos ⟨by omega, hq2⟩]
                  walk_at "ev"
                  refine ⟨fun _ => ?_, fun q => (nomatch q)⟩
                  walk_at "ev"
                  refine ⟨by simp, ?_⟩
                  walk_at "ev"
                  have e1 : (f : Int) + (w.2.2 : Int) = ((f + w.2.2 : Nat) : Int) := by push_cast; rfl
                  rw [e1]
                  refine ⟨⟨_, _, P.K 28 _ rfl, rfl⟩, s_heappush P (xs := h2) (x := [((f + w.2.2 : Nat) : Int), (q.2 : Int)]) (k := 2) (kget _ _ (Ne.symm heha) D.h) (by omega) hL2 rfl ?_⟩
                  rw [HF.set_comm heha, D.seth]
                  walk_at "ev"
                  refine ⟨_, ⟨?_, hpush_lens hL2 rfl⟩, (by walk_at "vle"), HF.Le.refl _⟩
                  rw [hS3, hpu]
                · have hq2 : q.2 ∈ st.seen ++ [p] := by
                    rcases Decidable.em (q.2 ∈ st.seen ++ [p]) with z | z
                    · exact z
                    · rw [decide_eq_false z] at hq2; cases hq2
                  refine ⟨fun q => (nomatch q), fun _ => ?_⟩
                  walk_at "ev"
                  refine ⟨h2, ⟨?_, hL2⟩, (by walk_at "vle"), HF.Le.refl _⟩
                  rw [hS3]; unfold push1; rw [if_neg fun z => z.2 hq2]
              · have hq1 : ¬ (q.1 : Int) = p := by simpa using hq1
                refine ⟨fun q => (nomatch q), fun _ => ?_⟩
                walk_at "ev"
                refine ⟨h2, ⟨?_, hL2⟩, (by walk_at "vle"), HF.Le.refl _⟩
                rw [hS3]; unfold push1; rw [if_neg fun z => hq1 (by omega)]
            · have hj : 2 ≤ j := map_none hy
              rw [List.take_of_length_le (by simpa using hj)] at hSj
              walk_at "ev"
              refine ⟨h2, ⟨?_, hL2⟩, (by walk_at "vle"), ?_⟩
              · rw [hS2, hSj]; rfl
              · exact HF.Le.new (by rw [S4_other heoa heha hesa hela]; exact he0) (HF.Le.refl _)
          · have hi := map_none hx
            rw [List.take_of_length_le hi] at hS
            subst hS
            walk_at "ev"
            exact ⟨_, ⟨⟨hstepJ, hstepW⟩, hmu _ pushes_len⟩, (by walk_at "vle"), HF.Le.refl _⟩
        · have hk : ¬ known (L root) (st.lab p) f = [] := of_decide_eq_false hk
          have est : stepS ways root (L root) st = ⟨popr st.heap, st.seen ++ [p], st.lab⟩ := by
            unfold stepS; simp only [g0, g1]; rw [if_neg hns, if_neg hk]
          rw [est] at hstepJ hstepW
          walk_at "ev"
          exact ⟨_, ⟨⟨hstepJ, hstepW⟩, hmu _ (Nat.le_add_right _ _)⟩, (by walk_at "vle"), le4⟩
      · have hns : p ∈ st.seen := by simpa using hns
        have est : stepS ways root (L root) st = ⟨popr st.heap, st.seen, st.lab⟩ := by
          unfold stepS; simp only [g0, g1]; rw [if_pos hns]
        rw [est] at hstepJ hstepW
        walk_at "ev"
        exact ⟨_, ⟨⟨hstepJ, hstepW⟩, Nat.add_lt_add_right (show (popr st.heap).length < st.heap.length by omega) _⟩, (by walk_at "vle"), HF.Le.refl _⟩
    · have hne : st.heap = [] := by simpa using ht
      walk_at "ev"
      refine ⟨H.set la (.list (labs st.lab)), ?_, hend st hJ hne⟩
      refine HF.Le.trans (?_ : HF.Le _ (S4 H oa ha sa la _ _ _ _)) (HF.Le.new hb (HF.Le.refl _))
      unfold S4
      exact HF.Le.cong (HF.Le.newK hsa (HF.Le.newK hha (HF.Le.newK hoa (HF.Le.refl _))))
end
end
section
/-! the plain law: lengths -/
abbrev Join (w : Way) (x y : Nat) : Prop := (w.1 = x ∧ w.2.1 = y) ∨ (w.2.1 = x ∧ w.1 = y)
theorem Join.symm {w : Way} {x y : Nat} (h : Join w x y) : Join w y x := h.elim (fun q => .inr ⟨q.2, q.1⟩) fun q => .inl ⟨q.2, q.1⟩
inductive Wk (ways : List Way) (u : Nat) : Nat → Nat → Prop
  | nil : Wk ways u u 0
  | snoc {x l w v} : Wk ways u x l → w ∈ ways → Join w x v → Wk ways u v (l + w.2.2)
inductive Trail (ways : List Way) (u : Nat) : Nat → List Way → Prop
  | nil : Trail ways u u []
  | snoc {x es w v} : Trail ways u x es → w ∈ ways → w ∉ es → Join w x v → Trail ways u v (w :: es)
theorem Trail.end' {ways : List Way} {u : Nat} : ∀ {x : Nat} {es : List Way}, Trail ways u x es → ∀ w ∈ es, ∀ a v, Join w a v → ∃ es', Trail ways u v es'
  | _, _, .nil, w, hw, _, _, _ => by cases hw
  | _, _, .snoc (x := y) (es := es) (w := w') (v := x) t h1 h2 h3, w, hw, a, v, hj => by
    rcases List.mem_cons.mp hw with rfl | hw
    · have : v = y ∨ v = x := h3.elim (fun p => hj.elim (fun q => .inr (q.2.symm.trans p.2)) fun q => .inl (q.2.symm.trans p.1)) fun p => hj.elim (fun q => .inl (q.2.symm.trans p.1)) fun q => .inr (q.2.symm.trans p.2)
      rcases this with rfl | rfl
      · exact ⟨_, t⟩
      · exact ⟨_, .snoc t h1 h2 h3⟩
    · exact Trail.end' t w hw a v hj
theorem Wk.trail {ways : List Way} {u : Nat} : ∀ {v l : Nat}, Wk ways u v l → ∃ es, Trail ways u v es
  | _, _, .nil => ⟨[], .nil⟩
  | _, _, .snoc (w := w) t h1 h2 => by
    obtain ⟨es, te⟩ := Wk.trail t
    by_cases h : w ∈ es
    · exact te.end' w h _ _ h2
    · exact ⟨_, .snoc te h1 h h2⟩
theorem Trail.wk {ways : List Way} {u : Nat} : ∀ {v : Nat} {es : List Way}, Trail ways u v es → Wk ways u v (es.map fun w => w.2.2).sum ∧ es.Nodup ∧ ∀ w ∈ es, w ∈ ways
  | _, _, .nil => ⟨.nil, List.nodup_nil, by simp⟩
  | _, _, .snoc (es := es) (w := w) t h1 h2 h3 => by
    obtain ⟨a, b, c⟩ := Trail.wk t
    refine ⟨?_, by rw [List.nodup_cons]; exact ⟨h2, b⟩, fun x hx => ?_⟩
    · rw [List.map_cons, List.sum_cons, Nat.add_comm]
      exact .snoc a h1 h3
    · rcases List.mem_cons.mp hx with rfl | hx
      · exact h1
      · exact c x hx
theorem sum_erase {ws : List Way} {w : Way} (h : w ∈ ws) : (ws.map fun w => w.2.2).sum = w.2.2 + ((ws.erase w).map fun w => w.2.2).sum := by
  have := ((List.perm_cons_erase h).map fun (w : Way) => w.2.2).sum_nat
  rw [this, List.map_cons, List.sum_cons]
theorem sum_sub : ∀ {es ws : List Way}, es.Nodup → (∀ w ∈ es, w ∈ ws) → (es.map fun w => w.2.2).sum ≤ (ws.map fun w => w.2.2).sum
  | [], ws, _, _ => by simp
  | e :: es, ws, nd, h => by
    rw [List.nodup_cons] at nd
    have he := h e (by simp)
    have ih := sum_sub (es := es) (ws := ws.erase e) nd.2 fun w hw => (List.mem_erase_of_ne (fun q => nd.1 (by rw [← q]; exact hw))).mpr (h w (by simp [hw]))
    rw [sum_erase he, List.map_cons, List.sum_cons]
    omega
theorem Wk.short {ways : List Way} {u v l : Nat} (h : Wk ways u v l) : ∃ l', Wk ways u v l' ∧ l' < noneV ways := by
  obtain ⟨es, t⟩ := h.trail
  obtain ⟨a, b, c⟩ := t.wk
  refine ⟨_, a, ?_⟩
  have := sum_sub b c
  unfold noneV; omega
theorem Wk.append {ways : List Way} {u x : Nat} {l : Nat} (h : Wk ways u x l) : ∀ {v k : Nat}, Wk ways x v k → Wk ways u v (l + k)
  | _, _, .nil => h
  | _, _, .snoc t h1 h2 => by rw [← Nat.add_assoc]; exact .snoc (h.append t) h1 h2
/-- what the table is, closed over the places below k -/
structure TabI (ways : List Way) (nv : Nat) (M : Mx) (k : Nat) : Prop where
  diag : ∀ i, i < 5 → M i i = 0
  sym : ∀ i j, M i j = M j i
  le : ∀ i j, i < 5 → j < 5 → M i j ≤ nv
  wk : ∀ i j, i < 5 → j < 5 → M i j < nv → Wk ways i j (M i j)
  tri : ∀ i j m, i < 5 → j < 5 → m < k → M i j ≤ M i m + M m j
theorem setM_get (M : Mx) (a b v i j : Nat) : setM M a b v i j = if i = a ∧ j = b then v else M i j := rfl
theorem edgeM_get (M : Mx) (w : Way) (hs : ∀ i j, M i j = M j i) (i j : Nat) : edgeM M w i j = if Join w i j then min (M i j) w.2.2 else M i j := by
  unfold edgeM Join
  simp only [setM_get]
  have h0 := hs w.1 w.2.1
  by_cases q : w.1 = i ∧ w.2.1 = j
  · obtain ⟨rfl, rfl⟩ := q
    by_cases r : w.1 = w.2.1
    · simp [r]
    · simp [r, Ne.symm r]
  · by_cases q2 : w.2.1 = i ∧ w.1 = j
    · obtain ⟨rfl, rfl⟩ := q2
      have r : ¬ (w.1 = w.2.1) := fun r => q ⟨r, r.symm⟩
      simp [r, Ne.symm r]
    · have a1 : ¬ (i = w.2.1 ∧ j = w.1) := fun z => q2 ⟨z.1.symm, z.2.symm⟩
      have a2 : ¬ (i = w.1 ∧ j = w.2.1) := fun z => q ⟨z.1.symm, z.2.symm⟩
      rw [if_neg a1, if_neg a2, if_neg (by rintro (z | z); exact q z; exact q2 z)]
theorem edges_ok {ways : List Way} {nv : Nat} : ∀ {ws : List Way} {M : Mx}, (∀ w ∈ ws, w ∈ ways) → TabI ways nv M 0 → TabI ways nv (ws.foldl edgeM M) 0 ∧ (∀ i j, ws.foldl edgeM M i j ≤ M i j) ∧ ∀ w ∈ ws, ∀ i j, Join w i j → ws.foldl edgeM M i j ≤ w.2.2
  | [], M, _, T => ⟨T, fun _ _ => Nat.le_refl _, by simp⟩
  | w :: ws, M, hw, T => by
    have e := edgeM_get M w T.sym
    have T' : TabI ways nv (edgeM M w) 0 := by
      refine ⟨fun i hi => ?_, fun i j => ?_, fun i j hi hj => ?_, fun i j hi hj hl => ?_, fun i j m _ _ h => absurd h (by omega)⟩
      · rw [e]; have := T.diag i hi; split <;> omega
      · rw [e, e, T.sym i j]
        by_cases q : Join w i j
        · rw [if_pos q, if_pos q.symm]
        · rw [if_neg q, if_neg fun z => q z.symm]
      · rw [e]; have := T.le i j hi hj; split <;> omega
      · rw [e] at hl ⊢
        split at hl
        · rename_i q
          rw [if_pos q]
          rcases Nat.le_total (M i j) w.2.2 with z | z
          · rw [Nat.min_eq_left z] at hl ⊢; exact T.wk i j hi hj hl
          · rw [Nat.min_eq_right z]
            have : Wk ways i j (0 + w.2.2) := .snoc .nil (hw w (by simp)) q
            rwa [Nat.zero_add] at this
        · rename_i q
          rw [if_neg q]; exact T.wk i j hi hj hl
    obtain ⟨a, b, c⟩ := edges_ok (ws := ws) (fun x hx => hw x (by simp [hx])) T'
    refine ⟨a, fun i j => ?_, fun x hx i j hj => ?_⟩
    · have := b i j; rw [e] at this
      show ws.foldl edgeM (edgeM M w) i j ≤ _
      split at this <;> omega
    · rcases List.mem_cons.mp hx with rfl | hx
      · have := b i j; rw [e, if_pos hj] at this
        show ws.foldl edgeM (edgeM M x) i j ≤ _
        omega
      · exact c x hx i j hj
theorem M0_ok {ways : List Way} {nv : Nat} : TabI ways nv (M0 nv) 0 := by
  refine ⟨fun i _ => if_pos rfl, fun i j => ?_, fun i j _ _ => ?_, fun i j _ _ h => ?_, fun i j m _ _ h => absurd h (by omega)⟩
  · unfold M0; by_cases q : i = j
    · rw [if_pos q, if_pos q.symm]
    · rw [if_neg q, if_neg (Ne.symm q)]
  · unfold M0; split <;> omega
  · unfold M0 at h ⊢
    split at h
    · rename_i q; rw [if_pos q, q]; exact .nil
    · omega
theorem fwJ_get (m i : Nat) : ∀ (l : List Nat) (M : Mx), M m m = 0 → ∀ a b, l.foldl (fwJ m i) M a b = if a = i ∧ b ∈ l then min (M i b) (M i m + M m b) else M a b
  | [], M, _, a, b => by simp
  | j :: l, M, h, a, b => by
    have h' : fwJ m i M j m m = 0 := by unfold fwJ; rw [setM_get]; split
                                        · rename_i q; obtain ⟨rfl, rfl⟩ := q; omega
                                        · exact h
    have hr : fwJ m i M j i m = M i m := by unfold fwJ; rw [setM_get]; split
                                            · rename_i q; rw [← q.2, h]; omega
                                            · rfl
    have hc : ∀ b, fwJ m i M j m b = M m b := fun b => by
      unfold fwJ; rw [setM_get]; split
      · rename_i q; obtain ⟨rfl, rfl⟩ := q; rw [h]; omega
      · rfl
    have hj : ∀ a b, fwJ m i M j a b = if a = i ∧ b = j then min (M i j) (M i m + M m j) else M a b := fun a b => rfl
    rw [List.foldl_cons, fwJ_get m i l _ h', hr, hc]
    by_cases q : a = i
    · subst q
      by_cases r : b ∈ l
      · rw [if_pos ⟨rfl, r⟩, if_pos ⟨rfl, by simp [r]⟩, hj]
        split
        · rename_i z; rw [z.2]; omega
        · rfl
      · rw [if_neg (fun z => r z.2), hj]
        by_cases z : b = j
        · subst z; rw [if_pos ⟨rfl, rfl⟩, if_pos ⟨rfl, by simp⟩]
        · rw [if_neg (fun w => z w.2), if_neg (by simp [r, z])]
    · rw [if_neg (fun z => q z.1), if_neg (fun z => q z.1), hj, if_neg (fun z => q z.1)]
theorem fwI_get (m : Nat) : ∀ (l : List Nat) (M : Mx), M m m = 0 → l.Nodup → ∀ a b, l.foldl (fwI m) M a b = if a ∈ l ∧ b < 5 then min (M a b) (M a m + M m b) else M a b
  | [], M, _, _, a, b => by simp
  | i :: l, M, h, nd, a, b => by
    have hi : ∀ a b, fwI m M i a b = if a = i ∧ b < 5 then min (M i b) (M i m + M m b) else M a b := fun a b => by
      unfold fwI; rw [fwJ_get m i _ M h]; simp
    have hc : ∀ b, fwI m M i m b = M m b := fun b => by
      rw [hi]; split
      · rename_i q; rw [← q.1, h]; omega
      · rfl
    have hr : ∀ a, fwI m M i a m = M a m := fun a => by
      rw [hi]; split
      · rename_i q; rw [h, q.1]; omega
      · rfl
    rw [List.nodup_cons] at nd
    rw [List.foldl_cons, fwI_get m l _ (by rw [hc]; exact h) nd.2, hr, hc, hi]
    by_cases q : a = i
    · subst q
      simp only [nd.1, false_and, if_false, true_and, List.mem_cons, true_or]
    · simp only [q, false_and, if_false, List.mem_cons, false_or]
theorem fwM_get {M : Mx} {m : Nat} (h : M m m = 0) (a b : Nat) : fwM M m a b = if a < 5 ∧ b < 5 then min (M a b) (M a m + M m b) else M a b := by
  unfold fwM; rw [fwI_get m _ M h List.nodup_range]; simp
end
section
theorem fwM_ok {ways : List Way} {nv : Nat} {M : Mx} {k : Nat} (T : TabI ways nv M k) (hk : k < 5) : TabI ways nv (fwM M k) (k + 1) ∧ ∀ i j, fwM M k i j ≤ M i j := by
  have e := fun i j => fwM_get (T.diag k hk) i j
  have d0 := T.diag k hk
  have ek : ∀ i, fwM M k i k = M i k := fun i => by rw [e]; split <;> omega
  have ek' : ∀ j, fwM M k k j = M k j := fun j => by rw [e]; split <;> omega
  refine ⟨⟨fun i hi => ?_, fun i j => ?_, fun i j hi hj => ?_, fun i j hi hj hl => ?_, fun i j m hi hj hm => ?_⟩, fun i j => ?_⟩
  · rw [e, T.diag i hi]; split <;> omega
  · rw [e, e, T.sym i j, T.sym i k, T.sym k j]
    by_cases q : i < 5 ∧ j < 5
    · rw [if_pos q, if_pos ⟨q.2, q.1⟩]; omega
    · rw [if_neg q, if_neg fun z => q ⟨z.2, z.1⟩]
  · rw [e]; have := T.le i j hi hj; split <;> omega
  · rw [e, if_pos ⟨hi, hj⟩] at hl ⊢
    rcases Nat.le_total (M i j) (M i k + M k j) with z | z
    · rw [Nat.min_eq_left z] at hl ⊢; exact T.wk i j hi hj hl
    · rw [Nat.min_eq_right z] at hl ⊢
      exact (T.wk i k hi hk (by omega)).append (T.wk k j hk hj (by omega))
  · rcases Nat.lt_or_ge m k with z | z
    · have hm5 : m < 5 := by omega
      rw [e i j, e i m, e m j, if_pos ⟨hi, hj⟩, if_pos ⟨hi, hm5⟩, if_pos ⟨hm5, hj⟩]
      have t1 := T.tri i j m hi hj z
      have t2 := T.tri k j m hk hj z
      have t3 := T.tri i k m hi hk z
      omega
    · have : m = k := by omega
      subst this
      rw [ek, ek', e, if_pos ⟨hi, hj⟩]
      omega
  · rw [e]; split <;> omega
structure Dist (ways : List Way) (D : Mx) : Prop where
  diag : ∀ i, i < 5 → D i i = 0
  sym : ∀ i j, D i j = D j i
  le : ∀ i j, i < 5 → j < 5 → D i j ≤ noneV ways
  wk : ∀ i j, i < 5 → j < 5 → D i j < noneV ways → Wk ways i j (D i j)
  tri : ∀ i j m, i < 5 → j < 5 → m < 5 → D i j ≤ D i m + D m j
  edge : ∀ w ∈ ways, ∀ i j, Join w i j → D i j ≤ w.2.2
def Mid (ways : List Way) (nv k : Nat) (M N : Mx) : Prop := TabI ways nv N k ∧ ∀ i j, N i j ≤ M i j
theorem Mid.next {ways : List Way} {nv k : Nat} {M N : Mx} (h : Mid ways nv k M N) (hk : k < 5) : Mid ways nv (k + 1) M (fwM N k) :=
  let ⟨a, b⟩ := fwM_ok h.1 hk
  ⟨a, fun i j => Nat.le_trans (b i j) (h.2 i j)⟩
theorem mids {ways : List Way} {nv : Nat} {M : Mx} : ∀ (n k : Nat) (N : Mx), k + n ≤ 5 → Mid ways nv k M N → Mid ways nv (k + n) M ((List.range' k n).foldl fwM N)
  | 0, k, N, _, h => h
  | n + 1, k, N, hk, h => by
    have := mids n (k + 1) (fwM N k) (by omega) (h.next (by omega))
    rw [List.range'_succ, List.foldl_cons]
    rw [show k + (n + 1) = k + 1 + n by omega]
    exact this
theorem lens_dist (ways : List Way) : Dist ways (lens ways) := by
  obtain ⟨T0, _, c0⟩ := edges_ok (ways := ways) (nv := noneV ways) (ws := ways) (M := M0 (noneV ways)) (fun w h => h) M0_ok
  have h := mids (ways := ways) (nv := noneV ways) (M := ways.foldl edgeM (M0 (noneV ways))) 5 0 _ (by decide) ⟨T0, fun _ _ => Nat.le_refl _⟩
  have e : lens ways = (List.range' 0 5).foldl fwM (ways.foldl edgeM (M0 (noneV ways))) := by unfold lens; rw [List.range_eq_range']
  rw [← e] at h
  obtain ⟨T5, l⟩ := h
  exact ⟨T5.diag, T5.sym, T5.le, T5.wk, fun i j m hi hj hm => T5.tri i j m hi hj hm, fun w hw i j hj => Nat.le_trans (l i j) (c0 w hw i j hj)⟩
section
variable {ways : List Way} {D : Mx} (X : Dist ways D)
include X
omit X in
theorem Wk.end5 {u v l : Nat} (h5 : Way5 ways) (hu : u < 5) (h : Wk ways u v l) : v < 5 := by
  cases h with
  | nil => exact hu
  | snoc t h1 h2 => have := h5 _ h1; unfold Join at h2; omega
theorem Dist.walk (h5 : Way5 ways) {u : Nat} (hu : u < 5) : ∀ {v l : Nat}, Wk ways u v l → D u v ≤ l
  | _, _, .nil => by rw [X.diag u hu]; omega
  | _, _, .snoc (x := x) (w := w) (v := v) t h1 h2 => by
    have a := Dist.walk h5 hu t
    have hx := Wk.end5 h5 hu t
    have hv := Wk.end5 h5 hu (.snoc t h1 h2)
    have b := X.tri u v x hu hv hx
    have c := X.edge w h1 x v h2
    omega
theorem Dist.fin (h5 : Way5 ways) {u v l : Nat} (hu : u < 5) (h : Wk ways u v l) : D u v < noneV ways := by
  obtain ⟨l', a, b⟩ := h.short
  have := X.walk h5 hu a
  omega
end
/-! canonical hubs -/
def Can (D : Mx) (nv place hub : Nat) : Prop := D place hub < nv ∧ ∀ one < hub, D place one + D one hub ≠ D place hub
theorem hub1_some {D : Mx} {nv place hub : Nat} (h : Can D nv place hub) : hub1 D nv place hub = some (hub, D place hub) := by
  unfold hub1; rw [if_pos ⟨h.1, higher_nil.mpr h.2⟩]
theorem hub1_none {D : Mx} {nv place hub : Nat} (h : ¬ Can D nv place hub) : hub1 D nv place hub = none := by
  unfold hub1; rw [if_neg fun z => h ⟨z.1, higher_nil.mp z.2⟩]
def Lr (D : Mx) (nv r v : Nat) : List (Nat × Nat) := (List.range r).filterMap (hub1 D nv v)
theorem Lr_mem {D : Mx} {nv r v : Nat} {q : Nat × Nat} : q ∈ Lr D nv r v ↔ q.1 < r ∧ Can D nv v q.1 ∧ q.2 = D v q.1 := by
  unfold Lr
  rw [List.mem_filterMap]
  constructor
  · rintro ⟨k, hk, e⟩
    have hk : k < r := by simpa using hk
    by_cases c : Can D nv v k
    · rw [hub1_some c] at e; cases e; exact ⟨hk, c, rfl⟩
    · rw [hub1_none c] at e; cases e
  · rintro ⟨a, b, c⟩
    refine ⟨q.1, by simpa using a, ?_⟩
    rw [hub1_some b, ← c]
theorem Lr_succ (D : Mx) (nv r v : Nat) : Lr D nv (r + 1) v = Lr D nv r v ++ (hub1 D nv v r).toList := by
  unfold Lr
  rw [List.range_succ, List.filterMap_append]
  cases e : hub1 D nv v r with
  | none => rw [List.filterMap_cons_none e]; rfl
  | some x => rw [List.filterMap_cons_some e]; rfl
theorem sums_mem {ps qs : List (Nat × Nat)} {x : Nat} : x ∈ sums ps qs ↔ ∃ p ∈ ps, ∃ q ∈ qs, p.1 = q.1 ∧ x = p.2 + q.2 := by
  unfold sums
  rw [List.mem_flatMap]
  constructor
  · rintro ⟨p, hp, h⟩
    rw [List.mem_filterMap] at h
    obtain ⟨q, hq, e⟩ := h
    unfold sum1 at e
    split at e
    · cases e; exact ⟨p, hp, q, hq, ‹_›, rfl⟩
    · cases e
  · rintro ⟨p, hp, q, hq, e1, e2⟩
    refine ⟨p, hp, ?_⟩
    rw [List.mem_filterMap]
    exact ⟨q, hq, by unfold sum1; rw [if_pos e1, e2]⟩
section
variable {ways : List Way} {D : Mx}
theorem least_ix {p : Nat → Prop} [DecidablePred p] {n : Nat} (h : p n) : ∃ k, k ≤ n ∧ p k ∧ ∀ j < k, ¬ p j := by
  induction n using Nat.strongRecOn with
  | ind n ih =>
    by_cases q : ∃ j, j < n ∧ p j
    · obtain ⟨j, hj, pj⟩ := q
      obtain ⟨k, a, b, c⟩ := ih j hj pj
      exact ⟨k, by omega, b, c⟩
    · exact ⟨n, Nat.le_refl _, h, fun j hj pj => q ⟨j, hj, pj⟩⟩
/-- a place between two that no hub cuts off: the highest in rank is a hub of both -/
theorem common_hub (X : Dist ways D) (h5 : Way5 ways) {u v f k : Nat} (hu : u < 5) (hv : v < 5) (hk : k < 5) (h1 : D u k < noneV ways) (h2 : D k v < noneV ways) (h3 : D u k + D k v ≤ f) :
    ∃ j, j ≤ k ∧ Can D (noneV ways) u j ∧ Can D (noneV ways) v j ∧ D u j + D v j ≤ f := by
  obtain ⟨j, hjk, ⟨p1, p2, p3⟩, hmin⟩ := least_ix (p := fun j => D u j < noneV ways ∧ D j v < noneV ways ∧ D u j + D j v ≤ f) (n := k) ⟨h1, h2, h3⟩
  have hj : j < 5 := by omega
  refine ⟨j, hjk, ⟨p1, fun one ho e => ?_⟩, ⟨by rw [X.sym]; exact p2, fun one ho e => ?_⟩, by rw [X.sym v j]; exact p3⟩
  · have ho5 : one < 5 := by omega
    have t := X.tri one v j ho5 hv hj
    have a1 : D u one < noneV ways := by omega
    have w1 := X.wk one j ho5 hj (by omega)
    have w2 := X.wk j v hj hv p2
    have a2 := X.fin h5 ho5 (w1.append w2)
    exact hmin one ho ⟨a1, a2, by omega⟩
  · have ho5 : one < 5 := by omega
    rw [X.sym v j] at e
    have t := X.tri u one j hu ho5 hj
    have a2 : D one v < noneV ways := by rw [X.sym]; omega
    have w1 := X.wk u j hu hj p1
    have w2 := X.wk j one hj ho5 (by rw [X.sym]; omega)
    have a1 := X.fin h5 hu (w1.append w2)
    have e2 := X.sym j one
    have e3 := X.sym v one
    exact hmin one ho ⟨a1, a2, by omega⟩
theorem least_some {l : List Nat} {d : Nat} (h1 : d ∈ l) (h2 : ∀ x ∈ l, d ≤ x) : least l = [d] := by
  cases l with
  | nil => cases h1
  | cons x r =>
    have key : ∀ (r : List Nat) (x : Nat), (∀ y ∈ x :: r, d ≤ y) → d ∈ x :: r → r.foldl min x = d := by
      intro r
      induction r with
      | nil => intro x a b; simp at b; exact b.symm
      | cons y r ih =>
        intro x a b
        rw [List.foldl_cons]
        have hx := a x (by simp); have hy := a y (by simp)
        refine ih (min x y) (fun z hz => ?_) ?_
        · rcases List.mem_cons.mp hz with rfl | hz
          · omega
          · exact a z (by simp [hz])
        · rcases List.mem_cons.mp b with rfl | b
          · rw [Nat.min_eq_left hy]; simp
          · rcases List.mem_cons.mp b with rfl | b
            · rw [Nat.min_eq_right hx]; simp
            · simp [b]
    show [r.foldl min x] = [d]
    rw [key r x h2 h1]
theorem least_sums (X : Dist ways D) (h5 : Way5 ways) {u v : Nat} (hu : u < 5) (hv : v < 5) :
    least (sums (Lr D (noneV ways) 5 u) (Lr D (noneV ways) 5 v)) = if D u v < noneV ways then [D u v] else [] := by
  have low : ∀ x ∈ sums (Lr D (noneV ways) 5 u) (Lr D (noneV ways) 5 v), D u v ≤ x ∧ D u v < noneV ways := fun x hx => by
    obtain ⟨p, hp, q, hq, e1, e2⟩ := sums_mem.mp hx
    obtain ⟨a1, a2, a3⟩ := Lr_mem.mp hp
    obtain ⟨b1, b2, b3⟩ := Lr_mem.mp hq
    rw [← e1] at b2 b3
    have t := X.tri u v p.1 hu hv a1
    have s := X.sym v p.1
    have w1 := X.wk u p.1 hu a1 a2.1
    have w2 := X.wk p.1 v a1 hv (by rw [← s]; exact b2.1)
    exact ⟨by omega, X.fin h5 hu (w1.append w2)⟩
  split
  · rename_i h
    obtain ⟨j, hj, c1, c2, hs⟩ := common_hub X h5 (f := D u v) hu hv hv h (by rw [X.diag v hv]; unfold noneV; omega) (by rw [X.diag v hv]; omega)
    have hm : D u j + D v j ∈ sums (Lr D (noneV ways) 5 u) (Lr D (noneV ways) 5 v) :=
      sums_mem.mpr ⟨(j, D u j), Lr_mem.mpr ⟨by simp only; omega, c1, rfl⟩, (j, D v j), Lr_mem.mpr ⟨by simp only; omega, c2, rfl⟩, rfl, rfl⟩
    have := (low _ hm).1
    have e : D u v = D u j + D v j := by omega
    refine least_some (by rw [e]; exact hm) fun x hx => (low x hx).1
  · rename_i h
    cases e : sums (Lr D (noneV ways) 5 u) (Lr D (noneV ways) 5 v) with
    | nil => rfl
    | cons x r => exact absurd (low x (by rw [e]; simp)).2 h
end
end
section
/-! the heap is a heap -/
def leq (a b : List Int) : Prop := lexLt b a = false
theorem lexLt_irrefl : ∀ a : List Int, lexLt a a = false
  | [] => rfl
  | x :: xs => by unfold lexLt; rw [if_pos rfl]; exact lexLt_irrefl xs
theorem leq_refl (a : List Int) : leq a a := lexLt_irrefl a
theorem leq_trans : ∀ {k : Nat} {a b c : List Int}, a.length = k → b.length = k → c.length = k → leq a b → leq b c → leq a c
  | 0, a, b, c, ha, hb, hc, _, _ => by
    rw [List.length_eq_zero_iff.mp ha, List.length_eq_zero_iff.mp hc]; exact leq_refl _
  | k + 1, x :: a, y :: b, z :: c, ha, hb, hc, h1, h2 => by
    unfold leq lexLt at *
    by_cases q1 : y = x
    · subst q1
      by_cases q2 : z = y
      · subst q2
        rw [if_pos rfl] at h1 h2 ⊢
        exact leq_trans (by simpa using ha) (by simpa using hb) (by simpa using hc) h1 h2
      · rw [if_neg q2] at h2 ⊢; exact h2
    · rw [if_neg q1] at h1
      have h1 := of_decide_eq_false h1
      by_cases q2 : z = y
      · subst q2
        rw [if_neg q1]; exact decide_eq_false (by omega)
      · rw [if_neg q2] at h2
        have h2 := of_decide_eq_false h2
        rw [if_neg (by omega)]; exact decide_eq_false (by omega)
theorem lt_leq : ∀ {k : Nat} {a b : List Int}, a.length = k → b.length = k → lexLt a b = true → leq a b
  | 0, a, b, ha, hb, h => by rw [List.length_eq_zero_iff.mp ha, List.length_eq_zero_iff.mp hb] at h; cases h
  | k + 1, x :: a, y :: b, ha, hb, h => by
    unfold leq
    unfold lexLt at h ⊢
    by_cases q : x = y
    · subst q
      rw [if_pos rfl] at h ⊢
      exact lt_leq (k := k) (by simpa using ha) (by simpa using hb) h
    · rw [if_neg q] at h
      rw [if_neg (Ne.symm q)]
      have := of_decide_eq_true h
      exact decide_eq_false (by omega)
def at' (xs : List (List Int)) (i : Nat) : List Int := xs.getD i []
def Hp (xs : List (List Int)) : Prop := ∀ i, 0 < i → i < xs.length → leq (at' xs ((i - 1) / 2)) (at' xs i)
theorem at_set {xs : List (List Int)} {i j : Nat} {x : List Int} (h : i < xs.length) : at' (xs.set i x) j = if j = i then x else at' xs j := by
  unfold at'
  rw [List.getD_eq_getElem?_getD, List.getElem?_set, List.getD_eq_getElem?_getD]
  by_cases q : i = j
  · subst q; simp [h]
  · rw [if_neg q, if_neg (Ne.symm q)]
theorem at_len {k : Nat} {xs : List (List Int)} {i : Nat} (h : Lens k xs) (hi : i < xs.length) : (at' xs i).length = k := h.getD hi
theorem sdn_hp {k : Nat} (xs : List (List Int)) (start pos : Nat) (new : List Int) : start = 0 → Lens k xs → new.length = k → pos < xs.length →
    (∀ i, 0 < i → i < xs.length → i ≠ pos → leq (at' (xs.set pos new) ((i - 1) / 2)) (at' (xs.set pos new) i)) →
    (∀ i, 0 < i → i < xs.length → (i - 1) / 2 = pos → 0 < pos → leq (at' (xs.set pos new) ((pos - 1) / 2)) (at' (xs.set pos new) i)) → Hp (sdn xs start pos new) := by
  fun_induction sdn xs start pos new with
  | case1 xs pos h1 h2 ih =>
    intro h0 hl hn hp H1 H2
    have hpp : (pos - 1) / 2 < xs.length := by omega
    have hne : (pos - 1) / 2 ≠ pos := by omega
    have hpar : xs.getD ((pos - 1) / 2) [] = at' xs ((pos - 1) / 2) := rfl
    have hlp := at_len hl hpp
    have hlt : leq new (at' xs ((pos - 1) / 2)) := lt_leq hn hlp h2
    have E : ∀ j, at' (xs.set pos new) j = if j = pos then new else at' xs j := fun j => at_set hp
    have E2 : ∀ j, at' ((xs.set pos (xs.getD ((pos - 1) / 2) [])).set ((pos - 1) / 2) new) j = if j = (pos - 1) / 2 then new else if j = pos then at' xs ((pos - 1) / 2) else at' xs j := fun j => by
      rw [at_set (by rw [List.length_set]; exact hpp), at_set hp]; rfl
    refine ih h0 (hl.set hlp) hn (by rw [List.length_set]; exact hpp) (fun i hi hil hin => ?_) (fun i hi hil hip hpos => ?_)
    · rw [List.length_set] at hil
      rw [E2, E2, if_neg hin]
      by_cases q : i = pos
      · subst q
        rw [if_pos rfl, if_pos rfl]; exact hlt
      · rw [if_neg q]
        have a := H1 i hi hil q
        rw [E, E, if_neg q] at a
        by_cases q2 : (i - 1) / 2 = (pos - 1) / 2
        · rw [if_pos q2]
          rw [if_neg (by omega), q2] at a
          exact leq_trans hn hlp (at_len hl hil) hlt a
        · rw [if_neg q2]
          by_cases q3 : (i - 1) / 2 = pos
          · rw [if_pos q3]
            have b := H2 i hi hil q3 (by omega)
            rw [E, E, if_neg hne, if_neg q] at b
            exact b
          · rw [if_neg q3]; rw [if_neg q3] at a; exact a
    · rw [List.length_set] at hil
      rw [E2, E2, if_neg (by omega), if_neg (by omega), if_neg (by omega)]
      have a := H1 ((pos - 1) / 2) hpos hpp hne
      rw [E, E, if_neg hne, if_neg (by omega)] at a
      by_cases q : i = pos
      · rw [if_pos q]; exact a
      · rw [if_neg q]
        have b := H1 i hi hil q
        rw [E, E, if_neg q, if_neg (by omega), hip] at b
        exact leq_trans (at_len hl (by omega)) hlp (at_len hl hil) a b
  | case2 xs pos h1 h2 =>
    intro h0 hl hn hp H1 H2 i hi hil
    rw [List.length_set] at hil
    by_cases q : i = pos
    · subst q
      have hlp := at_len hl (show (i - 1) / 2 < xs.length by omega)
      rw [at_set hp, at_set hp, if_neg (by omega), if_pos rfl]
      unfold leq
      cases e : lexLt new (at' xs ((i - 1) / 2)) with
      | false => rfl
      | true => exact absurd e h2
    · exact H1 i hi hil q
  | case3 xs pos h1 =>
    intro h0 hl hn hp H1 H2 i hi hil
    rw [List.length_set] at hil
    exact H1 i hi hil (by omega)
/-- a heap but for the hole at pos -/
def Hole (xs : List (List Int)) (pos : Nat) : Prop := (∀ i, 0 < i → i < xs.length → i ≠ pos → (i - 1) / 2 ≠ pos → leq (at' xs ((i - 1) / 2)) (at' xs i)) ∧
  ∀ i, 0 < i → i < xs.length → (i - 1) / 2 = pos → 0 < pos → leq (at' xs ((pos - 1) / 2)) (at' xs i)
theorem sup_hp {k : Nat} (xs : List (List Int)) (start pos : Nat) (new : List Int) : start = 0 → Lens k xs → new.length = k → pos < xs.length → Hole xs pos → Hp (sup xs start pos new) := by
  fun_induction sup xs start pos new with
  | case1 xs pos h ih =>
    intro h0 hl hn hp ⟨H1, H2⟩
    obtain ⟨c1, c2⟩ := child_lt h
    have hcp : (child xs (2 * pos + 1) - 1) / 2 = pos ∧ (child xs (2 * pos + 1) = 2 * pos + 1 ∨ child xs (2 * pos + 1) = 2 * pos + 2) := by unfold child; split <;> omega
    have hmin : ∀ i, 0 < i → i < xs.length → (i - 1) / 2 = pos → leq (at' xs (child xs (2 * pos + 1))) (at' xs i) := fun i hi hil hip => by
      have hi2 : i = 2 * pos + 1 ∨ i = 2 * pos + 2 := by omega
      by_cases q : 2 * pos + 1 + 1 < xs.length ∧ lexLt (xs.getD (2 * pos + 1) []) (xs.getD (2 * pos + 1 + 1) []) = false
      · have e : child xs (2 * pos + 1) = 2 * pos + 1 + 1 := by unfold child; rw [if_pos q]
        rw [e]
        rcases hi2 with rfl | rfl
        · exact q.2
        · exact leq_refl _
      · have e : child xs (2 * pos + 1) = 2 * pos + 1 := by unfold child; rw [if_neg q]
        rw [e]
        rcases hi2 with rfl | rfl
        · exact leq_refl _
        · have hb : lexLt (xs.getD (2 * pos + 1) []) (xs.getD (2 * pos + 1 + 1) []) = true := by
            cases z : lexLt (xs.getD (2 * pos + 1) []) (xs.getD (2 * pos + 1 + 1) []) with
            | true => rfl
            | false => exact absurd ⟨hil, z⟩ q
          exact lt_leq (at_len hl h) (at_len hl hil) hb
    generalize child xs (2 * pos + 1) = c at *
    have hlc := at_len hl c1
    have E : ∀ j, at' (xs.set pos (xs.getD c [])) j = if j = pos then at' xs c else at' xs j := fun j => at_set hp
    refine ih h0 (hl.set hlc) hn (by rw [List.length_set]; exact c1) ⟨fun i hi hil hin hip => ?_, fun i hi hil hip hc0 => ?_⟩
    · rw [List.length_set] at hil
      rw [E, E]
      by_cases q : i = pos
      · subst q
        rw [if_pos rfl, if_neg (by omega)]
        exact H2 c (by omega) c1 hcp.1 hi
      · rw [if_neg q]
        by_cases q2 : (i - 1) / 2 = pos
        · rw [if_pos q2]; exact hmin i hi hil q2
        · rw [if_neg q2]; exact H1 i hi hil q q2
    · rw [List.length_set] at hil
      rw [hcp.1, E, E, if_pos rfl, if_neg (by omega)]
      have a := H1 i hi hil (by omega) (by omega)
      rw [hip] at a; exact a
  | case2 xs pos h =>
    intro h0 hl hn hp ⟨H1, H2⟩
    have e : (xs.set pos new).getD pos [] = new := getD_set_self hp
    rw [e]
    have E : ∀ j, at' ((xs.set pos new).set pos new) j = if j = pos then new else at' xs j := fun j => by rw [List.set_set]; exact at_set hp
    refine sdn_hp _ _ _ _ h0 (hl.set hn) hn (by rw [List.length_set]; exact hp) (fun i hi hil hin => ?_) (fun i hi hil hip _ => ?_)
    · rw [List.length_set] at hil
      rw [E, E, if_neg hin, if_neg (by omega)]
      exact H1 i hi hil hin (by omega)
    · rw [List.length_set] at hil; omega
end
section
theorem at_append_left {xs ys : List (List Int)} {i : Nat} (h : i < xs.length) : at' (xs ++ ys) i = at' xs i := by
  unfold at'; rw [List.getD_eq_getElem?_getD, List.getElem?_append_left h, List.getD_eq_getElem?_getD]
theorem hpush_hp {k : Nat} {xs : List (List Int)} {x : List Int} (hl : Lens k xs) (hx : x.length = k) (h : Hp xs) : Hp (hpush xs x) := by
  unfold hpush
  have e : (xs ++ [x]).getD xs.length [] = x := by simp
  have hl2 : Lens k (xs ++ [x]) := fun y hy => by
    rcases List.mem_append.mp hy with q | q
    · exact hl y q
    · simp at q; rw [q]; exact hx
  rw [e]
  refine sdn_hp (k := k) _ _ _ _ rfl hl2 hx (by simp) (fun i hi hil hin => ?_) (fun i hi hil hip _ => ?_)
  · rw [List.length_append, List.length_singleton] at hil
    rw [at_set (by simp), at_set (by simp), if_neg hin, if_neg (by omega), at_append_left (by omega), at_append_left (by omega)]
    exact h i hi (by omega)
  · rw [List.length_append, List.length_singleton] at hil; omega
theorem hp_min {k : Nat} {xs : List (List Int)} (hl : Lens k xs) (h : Hp xs) : ∀ i, i < xs.length → leq (at' xs 0) (at' xs i) := by
  intro i
  induction i using Nat.strongRecOn with
  | ind i ih =>
    intro hi
    by_cases q : i = 0
    · subst q; exact leq_refl _
    · have a := ih ((i - 1) / 2) (by omega) (by omega)
      have b := h i (by omega) hi
      exact leq_trans (at_len hl (by omega)) (at_len hl (by omega)) (at_len hl hi) a b
theorem pop_hp {k : Nat} {h : List (List Int)} (hl : Lens k h) (hp : Hp h) (hne : h ≠ []) : Hp (popr h) ∧ ∀ x ∈ h, leq (popm h) x := by
  have e := split_last hne
  have hlen := List.length_pos_iff.mpr hne
  have hmem : ∀ x ∈ h, ∃ i, i < h.length ∧ at' h i = x := fun x hx => by
    obtain ⟨i, hi, e⟩ := List.mem_iff_getElem.mp hx
    exact ⟨i, hi, by unfold at'; rw [List.getD_eq_getElem?_getD, List.getElem?_eq_getElem hi]; exact e⟩
  have hm : popm h = at' h 0 := by
    unfold popm hpop
    generalize h.dropLast = xs at *
    generalize h.getLastD [] = l at *
    subst e
    split
    · rename_i q; subst q; rfl
    · rename_i q
      rw [at_append_left (List.length_pos_iff.mpr q)]; rfl
  refine ⟨?_, fun x hx => ?_⟩
  · unfold popr hpop
    generalize h.dropLast = xs at *
    generalize h.getLastD [] = l at *
    subst e
    split
    · intro i hi hil; simp at hil
    · rename_i q
      have hx0 : 0 < xs.length := List.length_pos_iff.mpr q
      have hlx : Lens k xs := fun y hy => hl y (by simp [hy])
      have hll : l.length = k := hl l (by simp)
      refine sup_hp (k := k) _ _ _ _ rfl (hlx.set hll) (by rw [getD_set_self hx0]; exact hll) (by rw [List.length_set]; exact hx0) ⟨fun i hi hil hin hip => ?_, fun i _ _ _ hc => absurd hc (by decide)⟩
      rw [List.length_set] at hil
      rw [at_set hx0, at_set hx0, if_neg hin, if_neg hip]
      have := hp i hi (by rw [List.length_append]; omega)
      rw [at_append_left (by omega), at_append_left hil] at this
      exact this
  · obtain ⟨i, hi, rfl⟩ := hmem x hx
    rw [hm]; exact hp_min hl hp i hi
theorem leq_fst {a b c d : Nat} (h : leq [(a : Int), (b : Int)] [(c : Int), (d : Int)]) : a ≤ c := by
  unfold leq lexLt at h
  by_cases q : (c : Int) = a
  · omega
  · rw [if_neg q] at h
    have := of_decide_eq_false h
    omega
theorem push1_hp {p f : Nat} {seen : List Nat} {size : Nat} {h : List (List Int)} {q : Nat × Nat} (hl : Lens 2 h) (hp : Hp h) : Hp (push1 p f seen size h q) := by
  unfold push1; split
  · exact hpush_hp hl rfl hp
  · exact hp
theorem pushes_hp {p f : Nat} {seen : List Nat} : ∀ {ways : List Way} {h : List (List Int)}, Lens 2 h → Hp h → Hp (ways.foldl (pushW p f seen) h)
  | [], h, _, hp => hp
  | w :: ways, h, hl, hp => by
    rw [List.foldl_cons]
    have e : pushW p f seen h w = push1 p f seen w.2.2 (push1 p f seen w.2.2 h (w.1, w.2.1)) (w.2.1, w.1) := rfl
    rw [e]
    exact pushes_hp (push1_lens (push1_lens hl)) (push1_hp (push1_lens hl) (push1_hp hl hp))
theorem push1_keep {p f : Nat} {seen : List Nat} {size : Nat} {h : List (List Int)} {q : Nat × Nat} {x : List Int} (hx : x ∈ h) : x ∈ push1 p f seen size h q := by
  unfold push1; split
  · exact (hpush_perm _ _).mem_iff.mpr (by simp [hx])
  · exact hx
theorem push1_new {p f : Nat} {seen : List Nat} {size : Nat} {h : List (List Int)} {q : Nat × Nat} (h1 : q.1 = p) (h2 : q.2 ∉ seen) : [((f + size : Nat) : Int), (q.2 : Int)] ∈ push1 p f seen size h q := by
  unfold push1; rw [if_pos ⟨h1, h2⟩]
  exact (hpush_perm _ _).mem_iff.mpr (by simp)
theorem pushes_keep {p f : Nat} {seen : List Nat} : ∀ {ways : List Way} {h : List (List Int)} {x : List Int}, x ∈ h → x ∈ ways.foldl (pushW p f seen) h
  | [], _, _, hx => hx
  | w :: ways, h, x, hx => by rw [List.foldl_cons]; exact pushes_keep (push1_keep (push1_keep hx))
theorem pushes_new {p f : Nat} {seen : List Nat} : ∀ {ways : List Way} {h : List (List Int)} {w : Way} {y : Nat}, w ∈ ways → Join w p y → y ∉ seen → [((f + w.2.2 : Nat) : Int), (y : Int)] ∈ ways.foldl (pushW p f seen) h
  | [], _, _, _, hw, _, _ => by cases hw
  | w' :: ways, h, w, y, hw, hj, hy => by
    rw [List.foldl_cons]
    rcases List.mem_cons.mp hw with rfl | hw
    · refine pushes_keep ?_
      show _ ∈ push1 p f seen w.2.2 (push1 p f seen w.2.2 h (w.1, w.2.1)) (w.2.1, w.1)
      rcases hj with ⟨a, b⟩ | ⟨a, b⟩
      · subst b; exact push1_keep (push1_new (q := (w.1, w.2.1)) a hy)
      · subst b; exact push1_new (q := (w.2.1, w.1)) a hy
    · exact pushes_new hw hj hy
end
section
/-! the search's invariant -/
section
variable {ways : List Way} {D : Mx} {r : Nat}
/-- some place of higher rank is as near by -/
def Cov (ways : List Way) (D : Mx) (r v f : Nat) : Prop := ∃ k, k < r ∧ D r k < noneV ways ∧ D k v < noneV ways ∧ D r k + D k v ≤ f
theorem Cov.mono {v f f' : Nat} (h : Cov ways D r v f) (k : f ≤ f') : Cov ways D r v f' := by
  obtain ⟨j, a, b, c, d⟩ := h; exact ⟨j, a, b, c, by omega⟩
theorem can_iff (X : Dist ways D) (hr : r < 5) {v : Nat} (hv : v < 5) (h : D r v < noneV ways) : Can D (noneV ways) v r ↔ ¬ Cov ways D r v (D r v) := by
  have s := X.sym v r
  constructor
  · rintro ⟨_, h2⟩ ⟨k, a, b, c, d⟩
    have hk : k < 5 := by omega
    have t := X.tri r v k hr hv hk
    refine h2 k a ?_
    rw [X.sym v k, X.sym k r]; omega
  · intro hn
    refine ⟨by omega, fun one ho e => hn ⟨one, ho, ?_, ?_, ?_⟩⟩
    · rw [X.sym r one]; omega
    · rw [X.sym one v]; omega
    · rw [X.sym r one, X.sym one v]; omega
theorem can_on (X : Dist ways D) (h5 : Way5 ways) (hr : r < 5) {u v : Nat} (hu : u < 5) (hv : v < 5) (hc : Can D (noneV ways) v r) (e : D r u + D u v = D r v) : Can D (noneV ways) u r := by
  have h1 : D r v < noneV ways := by rw [X.sym]; exact hc.1
  have h2 : D r u < noneV ways := by omega
  rw [can_iff X hr hu h2]
  rintro ⟨k, a, b, c, d⟩
  have hk : k < 5 := by omega
  have t := X.tri k v u hk hv hu
  have w1 := X.wk k u hk hu c
  have w2 := X.wk u v hu hv (by omega)
  exact (can_iff X hr hv h1).mp hc ⟨k, a, b, X.fin h5 hk (w1.append w2), by omega⟩
theorem known_iff (X : Dist ways D) (h5 : Way5 ways) (hr : r < 5) {v f : Nat} (hv : v < 5) : known (Lr D (noneV ways) r r) (Lr D (noneV ways) r v) f = [] ↔ ¬ Cov ways D r v f := by
  unfold known
  rw [List.filter_eq_nil_iff]
  constructor
  · rintro h ⟨k, a, b, c, d⟩
    obtain ⟨j, hj, c1, c2, hs⟩ := common_hub X h5 hr hv (show k < 5 by omega) b c d
    exact h _ (sums_mem.mpr ⟨(j, D r j), Lr_mem.mpr ⟨by simp only; omega, c1, rfl⟩, (j, D v j), Lr_mem.mpr ⟨by simp only; omega, c2, rfl⟩, rfl, rfl⟩) (decide_eq_true (by simp only; omega))
  · intro h x hx q
    have q := of_decide_eq_true q
    obtain ⟨p, hp, p', hp', e1, e2⟩ := sums_mem.mp hx
    obtain ⟨a1, a2, a3⟩ := Lr_mem.mp hp
    obtain ⟨b1, b2, b3⟩ := Lr_mem.mp hp'
    rw [← e1] at b2 b3
    exact h ⟨p.1, a1, a2.1, by rw [X.sym]; exact b2.1, by rw [X.sym p.1 v]; omega⟩
/-- the last place on a shortest way that is in S -/
theorem frontier (X : Dist ways D) (h5 : Way5 ways) (hr : r < 5) {S : List Nat} (hS : r ∈ S) {v : Nat} (hv : v < 5) (hn : v ∉ S) (hf : D r v < noneV ways) :
    ∃ u w x, u ∈ S ∧ u < 5 ∧ w ∈ ways ∧ Join w u x ∧ x ∉ S ∧ x < 5 ∧ D r u + w.2.2 = D r x ∧ D r x + D x v = D r v ∧ D r u + D u v = D r v := by
  have key : ∀ {y l : Nat}, Wk ways r y l → l + D y v = D r v → y ∈ S ∨ ∃ u w x, u ∈ S ∧ u < 5 ∧ w ∈ ways ∧ Join w u x ∧ x ∉ S ∧ x < 5 ∧ D r u + w.2.2 = D r x ∧ D r x + D x v = D r v ∧ D r u + D u v = D r v := by
    intro y l t
    induction t with
    | nil => intro _; exact .inl hS
    | snoc t h1 h2 ih =>
      rename_i x0 l0 w y
      intro e
      have hx := Wk.end5 h5 hr t
      have hy := Wk.end5 h5 hr (.snoc t h1 h2)
      have a1 := X.walk h5 hr t
      have a2 := X.walk h5 hr (.snoc t h1 h2)
      have a3 := X.tri r v x0 hr hv hx
      have a4 := X.tri x0 v y hx hv hy
      have a5 := X.edge w h1 x0 y h2
      have a6 := X.tri r v y hr hv hy
      rcases ih (by omega) with q | q
      · by_cases hyS : y ∈ S
        · exact .inl hyS
        · exact .inr ⟨x0, w, y, q, hx, h1, h2, hyS, hy, by omega, by omega, by omega⟩
      · exact .inr q
  rcases key (X.wk r v hr hv hf) (by rw [X.diag v hv]; omega) with q | q
  · exact absurd q hn
  · exact q
structure SJ (ways : List Way) (D : Mx) (r : Nat) (st : St) : Prop where
  wf : Wf ways r st
  hp : Hp st.heap
  ent : ∀ x ∈ st.heap, ∃ f p : Nat, x = [(f : Int), (p : Int)] ∧ p < 5 ∧ Wk ways r p f
  lb1 : ∀ v < 5, v ∈ st.seen → st.lab v = Lr D (noneV ways) (r + 1) v
  lb0 : ∀ v < 5, v ∉ st.seen → st.lab v = Lr D (noneV ways) r v
  edge : ∀ u ∈ st.seen, Can D (noneV ways) u r → ∀ w ∈ ways, ∀ y, Join w u y → y ∉ st.seen → [((D r u + w.2.2 : Nat) : Int), (y : Int)] ∈ st.heap
  root : r ∈ st.seen ∨ (st.seen = [] ∧ st.heap = [[0, (r : Int)]])
theorem SJ.init {L : Lab} (hr : r < 5) (hL : ∀ v < 5, L v = Lr D (noneV ways) r v) (hlb : ∀ i, (L i).length ≤ r ∧ ∀ p ∈ L i, p.1 < 5 ∧ p.2 ≤ 25000) : SJ ways D r ⟨[[0, (r : Int)]], [], L⟩ where
  wf := ⟨List.nodup_nil, by simp, fun x hx => by simp only [List.mem_singleton] at hx; exact ⟨0, r, hx, hr, by omega⟩, by simp, fun i => by have := hlb i; simp only [List.not_mem_nil, if_false]; exact this⟩
  hp := fun i h0 h1 => by simp at h1; omega
  ent := fun x hx => by simp only [List.mem_singleton] at hx; exact ⟨0, r, hx, hr, .nil⟩
  lb1 := fun v _ h => by simp at h
  lb0 := fun v hv _ => hL v hv
  edge := fun u h => by simp at h
  root := .inr ⟨rfl, rfl⟩
theorem SJ.stop (X : Dist ways D) (h5 : Way5 ways) (hr : r < 5) {st : St} (J : SJ ways D r st) (he : st.heap = []) : ∀ v < 5, st.lab v = Lr D (noneV ways) (r + 1) v := fun v hv => by
  by_cases hs : v ∈ st.seen
  · exact J.lb1 v hv hs
  · rw [J.lb0 v hv hs, Lr_succ]
    have hn : ¬ Can D (noneV ways) v r := fun hc => by
      have hroot : r ∈ st.seen := by
        rcases J.root with q | ⟨_, q⟩
        · exact q
        · rw [he] at q; cases q
      obtain ⟨u, w, x, h1, hu5, h2, h3, h4, hx5, h6, h7, h8⟩ := frontier X h5 hr hroot hv hs (by rw [X.sym]; exact hc.1)
      have := J.edge u h1 (can_on X h5 hr hu5 hv hc h8) w h2 x h3 h4
      rw [he] at this; cases this
    rw [hub1_none hn]; simp
theorem SJ.step (X : Dist ways D) (hw : Way5s ways) (hr : r < 5) {st : St} (J : SJ ways D r st) (hne : st.heap ≠ []) : SJ ways D r (stepS ways r (Lr D (noneV ways) r r) st) := by
  have h5 : Way5 ways := fun w h => ⟨(hw w h).1, (hw w h).2.1⟩
  have W' := J.wf.step (own := Lr D (noneV ways) r r) hw hr hne
  obtain ⟨f, p, e, hp5, _⟩ := J.wf.pop hne
  have hpr := pop_perm hne
  have hlens := J.wf.lens
  obtain ⟨hhp, hmin⟩ := pop_hp hlens J.hp hne
  have hmem : ∀ x ∈ popr st.heap, x ∈ st.heap := fun x hx => hpr.mem_iff.mp (by simp [hx])
  have hkeep : ∀ x ∈ st.heap, x ≠ popm st.heap → x ∈ popr st.heap := fun x hx hn => by
    rcases List.mem_cons.mp (hpr.mem_iff.mpr hx) with q | q
    · exact absurd q hn
    · exact q
  have hlensr : Lens 2 (popr st.heap) := fun x hx => hlens x (hmem x hx)
  have g0 : ((popm st.heap).getD 0 0).toNat = f := by rw [e]; simp
  have g1 : ((popm st.heap).getD 1 0).toNat = p := by rw [e]; simp
  have hwk : Wk ways r p f := by
    obtain ⟨f', p', e', _, t⟩ := J.ent _ (hpr.mem_iff.mp (List.mem_cons_self))
    rw [e] at e'
    simp only [List.cons.injEq, and_true] at e'
    have a1 : f = f' := by omega
    have a2 : p = p' := by omega
    rw [a1, a2]; exact t
  have hfD := X.walk h5 hr hwk
  have hfin := X.fin h5 hr hwk
  have hne2 : ∀ (a y : Nat), y ≠ p → [(a : Int), (y : Int)] ≠ popm st.heap := fun a y hy q => by
    rw [e] at q; simp only [List.cons.injEq, and_true] at q; omega
  unfold stepS at W' ⊢
  simp only [g0, g1] at W' ⊢
  by_cases hps : p ∈ st.seen
  · rw [if_pos hps] at W' ⊢
    refine ⟨W', hhp, fun x hx => J.ent x (hmem x hx), J.lb1, J.lb0, fun u hu hc w hwm y hj hy => hkeep _ (J.edge u hu hc w hwm y hj hy) (hne2 _ _ (fun q => hy (q ▸ hps))), ?_⟩
    rcases J.root with q | ⟨q, _⟩
    · exact .inl q
    · rw [q] at hps; cases hps
  · rw [if_neg hps] at W' ⊢
    have hroot' : r ∈ st.seen ++ [p] := by
      rcases J.root with q | ⟨_, q⟩
      · simp [q]
      · have : popm st.heap ∈ st.heap := hpr.mem_iff.mp (List.mem_cons_self)
        rw [q] at this
        have this := List.mem_singleton.mp this
        rw [← q] at this
        rw [this] at e
        simp only [List.cons.injEq, and_true] at e
        have : p = r := by omega
        simp [this]
    have hfc : Can D (noneV ways) p r → f = D r p := fun hc => by
      rcases J.root with q | ⟨_, q⟩
      · obtain ⟨u, w, x, h1, hu5, h2, h3, h4, hx5, h6, h7, h8⟩ := frontier X h5 hr q hp5 hps hfin
        have := hmin _ (J.edge u h1 (can_on X h5 hr hu5 hp5 hc h8) w h2 x h3 h4)
        rw [e] at this
        have := leq_fst this
        omega
      · have := hmin [((0 : Nat) : Int), (r : Int)] (by rw [q]; simp)
        rw [e] at this
        have := leq_fst this
        omega
    have hlp := J.lb0 p hp5 hps
    have hki : known (Lr D (noneV ways) r r) (st.lab p) f = [] ↔ Can D (noneV ways) p r := by
      rw [hlp, known_iff X h5 hr hp5, can_iff X hr hp5 hfin]
      constructor
      · intro h1 h2; exact h1 (h2.mono hfD)
      · intro h1
        have := hfc ((can_iff X hr hp5 hfin).mpr h1)
        rw [this]; exact h1
    by_cases hk : known (Lr D (noneV ways) r r) (st.lab p) f = []
    · rw [if_pos hk] at W' ⊢
      have hc := hki.mp hk
      have hf := hfc hc
      refine ⟨W', pushes_hp hlensr hhp, fun x hx => ?_, fun v hv hs => ?_, fun v hv hs => ?_, fun u hu hcu w hwm y hj hy => ?_, .inl hroot'⟩
      · rcases pushes_mem hx with q | ⟨w, hwm, q, hq, rfl, hq1, _⟩
        · exact J.ent x (hmem x q)
        · obtain ⟨w1, w2, w3⟩ := hw w hwm
          refine ⟨f + w.2.2, q.2, rfl, by rcases hq with rfl | rfl <;> assumption, .snoc hwk hwm ?_⟩
          rcases hq with rfl | rfl
          · exact .inl ⟨hq1, rfl⟩
          · exact .inr ⟨hq1, rfl⟩
      · unfold setLb
        by_cases q : v = p
        · subst q
          simp only [if_true]
          rw [hlp, Lr_succ, hub1_some hc, X.sym v r, hf]; rfl
        · simp only [if_neg q]
          refine J.lb1 v hv ?_
          rcases List.mem_append.mp hs with z | z
          · exact z
          · simp at z; exact absurd z q
      · unfold setLb
        have q : v ≠ p := fun q => hs (by simp [q])
        simp only [if_neg q]
        exact J.lb0 v hv fun z => hs (by simp [z])
      · have hyp : y ≠ p := fun q => hy (by simp [q])
        rcases List.mem_append.mp hu with z | z
        · exact pushes_keep (hkeep _ (J.edge u z hcu w hwm y hj fun q => hy (by simp [q])) (hne2 _ _ hyp))
        · simp at z; subst z
          rw [← hf]
          exact pushes_new hwm hj hy
    · rw [if_neg hk] at W' ⊢
      have hc : ¬ Can D (noneV ways) p r := fun h => hk (hki.mpr h)
      refine ⟨W', hhp, fun x hx => J.ent x (hmem x hx), fun v hv hs => ?_, fun v hv hs => J.lb0 v hv fun z => hs (by simp [z]), fun u hu hcu w hwm y hj hy => ?_, .inl hroot'⟩
      · rcases List.mem_append.mp hs with z | z
        · exact J.lb1 v hv z
        · simp at z; subst z
          simp only
          rw [hlp, Lr_succ, hub1_none hc]; simp
      · have hyp : y ≠ p := fun q => hy (by simp [q])
        rcases List.mem_append.mp hu with z | z
        · exact hkeep _ (J.edge u z hcu w hwm y hj fun q => hy (by simp [q])) (hne2 _ _ hyp)
        · simp at z; subst z; exact absurd hcu hc
end
end
section
open PySem.W (Dat kqdOk)
/-! law -/
structure TabAt (H : HF) (t : Addr) (rs : List Addr) (M : Mx) : Prop where
  t : H t = some (.list (rs.map .ref))
  r : ∀ i (h : i < rs.length), H rs[i] = some (.list (rowL M i))
theorem TabAt.of {H : HF} {t : Addr} {rs : List Addr} {M : Mx} (T : Tab t rs) : TabAt (tabH H t rs M) t rs M := ⟨tabH_t .., fun i h => tabH_row T h⟩
theorem TabAt.le {H H' : HF} {t : Addr} {rs : List Addr} {M : Mx} (X : TabAt H t rs M) (k : H.Le H') : TabAt H' t rs M := ⟨k _ _ X.t, fun i h => k _ _ (X.r i h)⟩
theorem TabAt.self {H : HF} {t : Addr} {rs : List Addr} {M : Mx} (T : Tab t rs) (X : TabAt H t rs M) : tabH H t rs M = H := by
  funext b
  by_cases q : b = t
  · subst q; rw [tabH_t, X.t]
  · by_cases q2 : b ∈ rs
    · obtain ⟨i, hi, rfl⟩ := List.mem_iff_getElem.mp q2
      rw [tabH_row T hi, X.r i hi]
    · rw [tabH_other q q2]
section
variable {g : G} {n : Nat} {H : HF} {Q : PV → HF → Prop}
theorem sub_tabA1 {v i : Expr} {t : Addr} {rs : List Addr} {M : Mx} {k : Nat} (T : Tab t rs) (X : TabAt H t rs M) (hs : notSlice i = true) (hk : k < 5) (h : Q (.ref (rs[k]'(T.lt hk))) H) : SubO g n v i (.ref t) (.int k) H Q :=
  sub_listN hs X.t (by omega) (by rw [List.getElem?_map, List.getElem?_eq_getElem (T.lt hk)]; rfl) h
theorem sub_tabA2 {v i : Expr} {t : Addr} {rs : List Addr} {M : Mx} {k j : Nat} (T : Tab t rs) (X : TabAt H t rs M) (hs : notSlice i = true) (hk : k < 5) (hj : j < 5) (h : Q (.int (M k j : Nat)) H) : SubO g n v i (.ref (rs[k]'(T.lt hk))) (.int j) H Q :=
  sub_listN hs (X.r k (T.lt hk)) (by omega) (rowL_get _ _ hj) h
theorem s_hubsA (P : Prog g) {t : Addr} {rs : List Addr} {M : Mx} {nv place : Nat} (T : Tab t rs) (X : TabAt H t rs M) (hp : place < 5) (h : ∀ d, H d = none → Q (.ref d) (H.set d (.list ((hubsOf M nv place).map pr)))) :
    Calls g (n + 1) (.ref 217) [.ref t, .int nv, .int place] [] H Q := by
  have := s_hubs (g := g) (n := n) (H := H) (Q := Q) (nv := nv) P (M := M) T hp fun d _ _ hd => by rw [X.self T]; exact h d hd
  rw [X.self T] at this
  exact this
end
theorem RDs_get {H : HF} : ∀ {xs : List PV} {ds : List Dat}, xs.length = ds.length → (∀ (i : Nat) (x : PV) (d : Dat), xs[i]? = some x → ds[i]? = some d → RD H x d) → RDs H xs ds
  | [], [], _, _ => .nil
  | [], _ :: _, h, _ => by cases h
  | _ :: _, [], h, _ => by cases h
  | x :: xs, d :: ds, h, k => .cons (k 0 x d rfl rfl) (RDs_get (by simpa using h) fun i x d a b => k (i + 1) x d (by simpa using a) (by simpa using b))
def dPr (p : Nat × Nat) : Dat := dT [(p.1 : Int), (p.2 : Int)]
def dLb (l : List (Nat × Nat)) : Dat := .list (l.map dPr)
theorem rd_lb {H : HF} {a : Addr} {l : List (Nat × Nat)} (h : H a = some (.list (l.map pr))) : RD H (.ref a) (dLb l) := RD.list h (RDs_map fun x _ => rd_ti _)
theorem ok_lb (k : Nat) (l : List (Nat × Nat)) : kqdOk (k + 2) (dLb l) = true := by
  unfold dLb
  simp only [kqdOk, List.all_eq_true]
  intro x hx
  obtain ⟨y, _, rfl⟩ := List.mem_map.mp hx
  exact ok_T k _
/-- labels told -/
theorem rd_rows {H : HF} {a : Addr} {ss : List Addr} {F : Nat → List (Nat × Nat)} (h : H a = some (.list (ss.map .ref))) (k : ∀ i (hi : i < ss.length), H ss[i] = some (.list ((F i).map pr))) : RD H (.ref a) (.list ((List.range ss.length).map fun i => dLb (F i))) :=
  RD.list h (RDs_get (by simp) fun i x d hx hd => by
    rw [List.getElem?_map] at hx hd
    obtain ⟨y, hy, rfl⟩ := Option.map_eq_some_iff.mp hx
    obtain ⟨z, hz, rfl⟩ := Option.map_eq_some_iff.mp hd
    obtain ⟨hi, rfl⟩ := List.getElem?_eq_some_iff.mp hy
    obtain ⟨hi', rfl⟩ := List.getElem?_eq_some_iff.mp hz
    rw [List.getElem_range]
    exact rd_lb (k i hi))
theorem ok_rows (k : Nat) (F : Nat → List (Nat × Nat)) : kqdOk 9 (.list ((List.range k).map fun i => dLb (F i))) = true := by
  simp only [kqdOk, List.all_eq_true]
  intro x hx
  obtain ⟨y, _, rfl⟩ := List.mem_map.mp hx
  exact ok_lb 6 _
def dueP (nv : Nat) : PV → Option PV
  | .int x => if x < (nv : Int) then some (.int x) else none
  | _ => none
theorem dueP_eq (nv d : Nat) : [PV.int (d : Int)].filterMap (dueP nv) = ni (if d < nv then [d] else []) := by
  have e : dueP nv (.int (d : Int)) = if (d : Int) < (nv : Int) then some (.int (d : Int)) else none := rfl
  by_cases q : d < nv
  · rw [if_pos q, List.filterMap_cons, e, if_pos (by omega)]; rfl
  · rw [if_neg q, List.filterMap_cons, e, if_neg (by omega)]; rfl
theorem waysOf_len (ns : List Int) : (waysOf ns).length ≤ 7 := by unfold waysOf numsOf; rw [List.length_map, List.length_take]; omega
theorem waysOf_5s (ns : List Int) : Way5s (waysOf ns) := by
  intro w hw
  unfold waysOf at hw
  obtain ⟨x, _, rfl⟩ := List.mem_map.mp hw
  have h1 : ∀ y : Int, (y.fmod 5).toNat < 5 := fun y => by
    have := Int.fmod_nonneg_of_pos y (b := 5) (by decide)
    have := Int.fmod_lt_of_pos y (b := 5) (by decide)
    omega
  have h2 : ∀ y : Int, (y.fmod 5000).toNat < 5000 := fun y => by
    have := Int.fmod_nonneg_of_pos y (b := 5000) (by decide)
    have := Int.fmod_lt_of_pos y (b := 5000) (by decide)
    omega
  exact ⟨h1 _, h1 _, h2 _⟩
section
variable {g : G} {n : Nat} {H : HF}
theorem s_law (P : Prog g) {a : Addr} {vs : Array Value} {ns : List Int} (hL : g.h₀.IsList a vs) (hD : DenL g.h₀ (ns.map .int) vs.toList) (hn : ns.length ≤ 63) :
    Calls g (n + 6) (.ref 222) [.ref a] [] H (fun v _ => v = .bool true) := by
  refine calls_fnX (P.K 222 _ rfl) rfl rfl rfl (by kernel_rfl) rfl rfl rfl ⟨_, _, _, _, rfl, P.K _ _ rfl, rfl, rfl⟩ (binds1 (x := Str.ofString "script") P.K fun _ _ => by kernel_rfl) ?_
  have hw5 := waysOf_5s ns
  have hwl := waysOf_len ns
  have h5 : Way5 (waysOf ns) := fun w h => ⟨(hw5 w h).1, (hw5 w h).2.1⟩
  have X := lens_dist (waysOf ns)
  generalize hway : waysOf ns = ways at *
  walk_at "ev"
  refine ⟨⟨_, _, P.K 176 _ rfl, rfl⟩, s_ways P hL hD (by omega) fun wa hwa => ?_⟩
  rw [hway]
  walk_at "ev"
  refine ⟨⟨_, _, P.K 212 _ rfl, rfl⟩, s_lengths P (HF.set_self ..) h5 (by omega) fun t rs T ht hrs => ?_⟩
  generalize hM : lens ways = M at *
  walk_at "ev"
  refine ⟨by decide, fun la hla => ?_⟩
  obtain ⟨hlt, hlr, hla⟩ := tabH_none hla
  have hlw : la ≠ wa := fun q => by subst q; rw [HF.set_self] at hla; cases hla
  have hwt : wa ≠ t := fun q => by subst q; rw [HF.set_self] at ht; cases ht
  have hwr : wa ∉ rs := fun q => by have := hrs wa q; rw [HF.set_self] at this; cases this
  have TA0 : TabAt (tabH (H.set wa (.list (ways.map wv))) t rs M) t rs M := .of T
  have hW0 : tabH (H.set wa (.list (ways.map wv))) t rs M wa = some (.list (ways.map wv)) := by rw [tabH_other hwt hwr, HF.set_self]
  have hla0 : tabH (H.set wa (.list (ways.map wv))) t rs M la = none := by rw [tabH_other hlt hlr]; exact hla
  generalize tabH (H.set wa (.list (ways.map wv))) t rs M = K0 at *
  have TA1 : ∀ l, TabAt (K0.set la l) t rs M := fun l => TA0.le (HF.Le.new hla0 (HF.Le.refl _))
  have hW1 : ∀ l, K0.set la l wa = some (.list (ways.map wv)) := fun l => by rw [HF.set_other (Ne.symm hlw)]; exact hW0
  walk_at "ev"
  refine EvS_For (σ := Lab) (fun _ => [(Str.ofString "labels", .ref la), (Str.ofString "none", .int (noneV ways : Nat)), (Str.ofString "table", .ref t), (Str.ofString "ways", .ref wa)]) (fun L => K0.set la (.list (labs L)))
    (fun i L => i ≤ 5 ∧ (∀ v < 5, L v = Lr M (noneV ways) i v) ∧ ∀ v, (L v).length ≤ i ∧ ∀ p ∈ L v, p.1 < 5 ∧ p.2 ≤ 25000) rfl ?_
  walk_at "ev"
  refine ⟨trivial, calls_range1 fun c hc => ?_⟩
  refine ⟨.range c 0 5, rfl, ⟨HF.set_self .., by decide⟩, ⟨fun _ => [], ⟨by decide, fun _ _ => rfl, fun _ => ⟨by simp, by simp⟩⟩, (by walk_at "vle"), HF.Le.new hc (HF.Le.refl _)⟩, fun i L ⟨hi5, hS1, hS2⟩ => ⟨trivial, fun x hx => ?_, fun hx => ?_⟩⟩
  · obtain ⟨hi, rfl⟩ := range_get (k := 5) hx
    walk_at "ev"
    refine ⟨⟨_, _, P.K 207 _ rfl, rfl⟩, s_search P (hW1 _) hw5 hwl hi (HF.set_self ..) hS2 (SJ ways M i) (SJ.init hi hS1 hS2) (fun st J hne => by rw [hS1 i hi]; exact J.step X hw5 hi hne) fun st J he => ?_⟩
    rw [HF.set_set]
    walk_at "ev"
    refine ⟨st.lab, ⟨by omega, J.stop X h5 hi he, fun v => ?_⟩, (by walk_at "vle"), HF.Le.refl _⟩
    have := J.wf.lab v
    refine ⟨?_, this.2⟩
    have h1 := this.1
    split at h1 <;> omega
  · have hi := range_none (k := 5) hx
    have hi : i = 5 := by omega
    subst hi
    have hb40 : ∀ v, ∀ p ∈ L v, p.1 < 2 ^ 40 ∧ p.2 < 2 ^ 40 := fun v p hp => by have := (hS2 v).2 p hp; omega
    have hlt4 : ∀ v, (labT (L v)).length ≤ 40000 := fun v => by
      have h1 := labT_len (ps := L v) fun p hp => by have := (hS2 v).2 p hp; omega
      have h2 := (hS2 v).1
      omega
    walk_at "ev"
    refine EvS_CompM [] (fun env he => by cases env; cases he; kernel_rfl) (by kernel_rfl) rfl (by kernel_rfl) rfl (by kernel_rfl) ?_
    walk_at "ev"
    have hl1 : K0.set la (.list (labs L)) la = some (.list (labs L)) := HF.set_self ..
    have TA2 := TA1 (.list (labs L))
    generalize K0.set la (.list (labs L)) = K1 at *
    refine ⟨.list la (labs L), rfl, hl1, ?_⟩
    refine EvG_mk (σ := List Addr) (fun _ => []) (fun ss => rowsH K1 ss fun i => (L i).map pr) (fun ss => ss.map .ref) (fun i ss => ss.length = i ∧ i ≤ 5 ∧ ss.Nodup ∧ ∀ a ∈ ss, K1 a = none) rfl (fun g hg => by cases hg)
      ⟨[], ⟨rfl, by decide, List.nodup_nil, by simp⟩, Vars.Le.refl _, by rw [rowsH_nil]; exact HF.Le.refl _, rfl⟩ fun i ss ⟨s1, s2, s3, s4⟩ => ⟨rowsH_le s4 _ _ hl1, fun x hx => ?_, fun hx => ?_⟩
    · have hi : i < 5 := by
        rcases Nat.lt_or_ge i 5 with q | q
        · exact q
        · have hx : (labs L)[i]? = some x := hx
          rw [List.getElem?_eq_none (by rw [labs_len]; exact q)] at hx; cases hx
      have hx : (labs L)[i]? = some x := hx
      rw [labs_get L hi] at hx
      cases hx
      walk_at "ev"
      refine ⟨fun _ => ?_, fun q => (nomatch q)⟩
      refine EvIn_elt rfl ?_
      walk_at "ev"
      refine ⟨⟨_, _, P.K 197 _ rfl, rfl⟩, s_label P (hlt4 i) (by have := (hS2 i).1; omega) (hb40 i) fun b hb => ?_⟩
      obtain ⟨hb1, hb2⟩ := rowsH_none hb
      refine ⟨by rw [List.length_map]; omega, ss ++ [b], ⟨by rw [List.length_append, s1]; rfl, hi, ?_, ?_⟩, (by walk_at "vle"), ?_, by simp⟩
      · rw [List.nodup_append]
        exact ⟨s3, by simp, fun u hu d hd => by simp at hd; subst hd; exact fun q => hb1 (q ▸ hu)⟩
      · intro d hd
        rcases List.mem_append.mp hd with q | q
        · exact s4 d q
        · simp at q; subst q; exact hb2
      · rw [← rowsH_push hb1, s1]; exact HF.Le.refl _
    have hi5 : 5 ≤ i := by
      rcases Nat.lt_or_ge i 5 with q | q
      · have hx : (labs L)[i]? = none := hx
        rw [labs_get L q] at hx; cases hx
      · exact q
    have sl : ss.length = 5 := by omega
    intro ra hra
    obtain ⟨hra1, hra2⟩ := rowsH_none hra
    have hrow : ∀ i (hi : i < ss.length), rowsH K1 ss (fun i => (L i).map pr) ss[i] = some (.list ((L i).map pr)) := fun i hi => rowsH_get s3 hi
    have TA3 : TabAt (rowsH K1 ss fun i => (L i).map pr) t rs M := TA2.le (rowsH_le s4)
    generalize (rowsH K1 ss fun i => (L i).map pr) = K2 at *
    have kle : K2.Le (K2.set ra (.list (ss.map .ref))) := HF.Le.new hra (HF.Le.refl _)
    have TA4 : TabAt (K2.set ra (.list (ss.map .ref))) t rs M := TA3.le kle
    have hra3 : K2.set ra (.list (ss.map .ref)) ra = some (.list (ss.map .ref)) := HF.set_self ..
    have hrow2 : ∀ i (hi : i < ss.length), K2.set ra (.list (ss.map .ref)) ss[i] = some (.list ((L i).map pr)) := fun i hi => kle _ _ (hrow i hi)
    generalize K2.set ra (.list (ss.map .ref)) = K3 at *
    walk_at "ev"
    refine EvS_If ?_
    walk_at "ev"
    refine EvE_CompM [(Str.ofString "none", .int (noneV ways : Nat)), (Str.ofString "table", .ref t)] rfl (by kernel_rfl) rfl (by kernel_rfl) ?_
    walk_at "ev"
    refine ⟨trivial, calls_range1 fun c2 hc2 => ?_⟩
    refine ⟨.range c2 0 5, rfl, ⟨HF.set_self .., by decide⟩, ?_⟩
    refine EvG_mk (σ := List Addr) (fun _ => [(Str.ofString "none", .int (noneV ways : Nat)), (Str.ofString "table", .ref t)]) (fun us => rowsH K3 us fun i => (L i).map pr) (fun us => us.map .ref) (fun i us => us.length = i ∧ i ≤ 5 ∧ us.Nodup ∧ ∀ a ∈ us, K3 a = none) rfl (fun g hg => by cases hg)
      ⟨[], ⟨rfl, by decide, List.nodup_nil, by simp⟩, (by walk_at "vle"), by rw [rowsH_nil]; exact HF.Le.new hc2 (HF.Le.refl _), rfl⟩ fun i us ⟨u1, u2, u3, u4⟩ => ⟨trivial, fun x hx => ?_, fun hx => ?_⟩
    · obtain ⟨hi, rfl⟩ := range_get (k := 5) hx
      walk_at "ev"
      refine ⟨fun _ => ?_, fun q => (nomatch q)⟩
      refine EvIn_elt rfl ?_
      walk_at "ev"
      refine ⟨⟨_, _, P.K 217 _ rfl, rfl⟩, s_hubsA P T (TA4.le (rowsH_le u4)) hi fun b hb => ?_⟩
      obtain ⟨hb1, hb2⟩ := rowsH_none hb
      refine ⟨by rw [List.length_map]; omega, us ++ [b], ⟨by rw [List.length_append, u1]; rfl, hi, ?_, ?_⟩, (by walk_at "vle"), ?_, by simp⟩
      · rw [List.nodup_append]
        exact ⟨u3, by simp, fun u hu d hd => by simp at hd; subst hd; exact fun q => hb1 (q ▸ hu)⟩
      · intro d hd
        rcases List.mem_append.mp hd with q | q
        · exact u4 d q
        · simp at q; subst q; exact hb2
      · rw [← rowsH_push hb1, u1, hS1 i hi]; exact HF.Le.refl _
    have hj5 := range_none (k := 5) hx
    have ul : us.length = 5 := by omega
    intro ua hua
    have hurow : ∀ i (hi : i < us.length), rowsH K3 us (fun i => (L i).map pr) us[i] = some (.list ((L i).map pr)) := fun i hi => rowsH_get u3 hi
    have kle3 : K3.Le (rowsH K3 us fun i => (L i).map pr) := rowsH_le u4
    generalize (rowsH K3 us fun i => (L i).map pr) = K4 at *
    have kle4 : K4.Le (K4.set ua (.list (us.map .ref))) := HF.Le.new hua (HF.Le.refl _)
    have hua3 : K4.set ua (.list (us.map .ref)) ua = some (.list (us.map .ref)) := HF.set_self ..
    generalize K4.set ua (.list (us.map .ref)) = K5 at *
    have kle5 : K3.Le K5 := kle3.trans kle4
    refine cmp_ne_data true (rd_rows (kle5 _ _ hra3) fun i hi => kle5 _ _ (hrow2 i hi)) (rd_rows hua3 fun i hi => kle4 _ _ (hurow i hi)) (ok_rows _ _) (ok_rows _ _) (by rw [sl, ul]; exact ⟨fun _ => rfl, fun _ => rfl⟩) ?_
    walk_at "ev"
    refine ⟨fun q => (nomatch q), fun _ => ?_⟩
    refine EvSs.weak (Vars.Le.refl _) kle5 ?_
    walk_at "ev"
    refine EvS_For (σ := Unit) (fun _ => [(Str.ofString "rows", .ref ra), (Str.ofString "labels", .ref la), (Str.ofString "none", .int (noneV ways : Nat)), (Str.ofString "table", .ref t)]) (fun _ => K3) (fun i _ => i ≤ 5) rfl ?_
    walk_at "ev"
    refine ⟨trivial, calls_range1 fun c3 hc3 => ?_⟩
    refine ⟨.range c3 0 5, rfl, ⟨HF.set_self .., by decide⟩, ⟨(), by decide, (by walk_at "vle"), HF.Le.new hc3 (HF.Le.refl _)⟩, fun i _ _ => ⟨trivial, fun x hx => ?_, fun hx => ?_⟩⟩
    · obtain ⟨hi, rfl⟩ := range_get (k := 5) hx
      walk_at "ev"
      refine EvS_For (σ := Unit) (fun _ => [(Str.ofString "one", .int i), (Str.ofString "rows", .ref ra), (Str.ofString "labels", .ref la), (Str.ofString "none", .int (noneV ways : Nat)), (Str.ofString "table", .ref t)]) (fun _ => K3) (fun i _ => True) rfl ?_
      walk_at "ev"
      have e1 : (i : Int) + 1 = ((i + 1 : Nat) : Int) := by push_cast; rfl
      rw [e1]
      refine ⟨trivial, calls_range1 fun c4 hc4 => ?_⟩
      refine ⟨.range c4 0 ((i + 1 : Nat) : Int), rfl, ⟨HF.set_self .., by omega⟩, ⟨(), trivial, (by walk_at "vle"), HF.Le.new hc4 (HF.Le.refl _)⟩, fun j _ _ => ⟨trivial, fun y hy => ?_, fun hy => ?_⟩⟩
      · obtain ⟨hj, rfl⟩ := range_get (k := i + 1) hy
        have hj5 : j < 5 := by omega
        walk_at "ev"
        refine EvS_Comp1 [(Str.ofString "none", .int (noneV ways : Nat))] (dueP (noneV ways)) (fun env he => by cases env; cases he; kernel_rfl) (by kernel_rfl) (by kernel_rfl) rfl (by kernel_rfl) ?_
        walk_at "ev"
        refine sub_tabA1 T TA4 rfl hi ?_
        walk_at "ev"
        refine sub_tabA2 T TA4 rfl hi hj5 ?_
        walk_at "ev"
        refine ⟨by simp, fun e he => ?_⟩
        refine ⟨.list e [.int (M i j : Nat)], rfl, HF.set_self .., by show [PV.int _].length ≤ _; simp, fun k z hz => ?_, fun da hda => ?_⟩
        · have hz : [PV.int ((M i j : Nat) : Int)][k]? = some z := hz
          have hz : z = .int ((M i j : Nat) : Int) := by
            cases k with
            | zero => cases hz; rfl
            | succ k => simp at hz
          subst hz
          have e2 : dueP (noneV ways) (.int ((M i j : Nat) : Int)) = if ((M i j : Nat) : Int) < (noneV ways : Int) then some (.int ((M i j : Nat) : Int)) else none := rfl
          walk_at "ev"
          refine ⟨vle_new (by kernel_rfl) (Vars.Le.refl _), ?_⟩
          walk_at "ev"
          refine ⟨fun hq => ?_, fun hq => ?_⟩
          · have hq := of_decide_eq_true hq
            walk_at "ev"
            exact ⟨HF.Le.refl _, by rw [e2, if_pos hq]⟩
          · have hq := of_decide_eq_false hq
            exact ⟨HF.Le.refl _, by rw [e2, if_neg hq]⟩
        rw [show (Src.list e [.int (M i j : Nat)]).items = [.int (M i j : Nat)] from rfl, dueP_eq]
        have l1 : K3.Le ((K3.set e (.list [.int (M i j : Nat)])).set da (.list (ni (if M i j < noneV ways then [M i j] else [])))) := HF.Le.newK (le_none (HF.Le.new he (HF.Le.refl _)) hda) (HF.Le.new he (HF.Le.refl _))
        walk_at "ev"
        refine EvS_If ?_
        walk_at "ev"
        refine sub_listN rfl (l1 _ _ hra3) (by omega) (by rw [List.getElem?_map, List.getElem?_eq_getElem (show i < ss.length by omega)]; rfl) ?_
        walk_at "ev"
        refine sub_listN rfl (l1 _ _ hra3) (by omega) (by rw [List.getElem?_map, List.getElem?_eq_getElem (show j < ss.length by omega)]; rfl) ?_
        walk_at "ev"
        have li : (L i).length ≤ 5 := (hS2 i).1
        have lj : (L j).length ≤ 5 := (hS2 j).1
        refine ⟨⟨_, _, P.K 202 _ rfl, rfl⟩, s_sums P (l1 _ _ (hrow2 i (by omega))) (l1 _ _ (hrow2 j (by omega))) (by omega) (by omega) fun sb hsb => ?_⟩
        walk_at "ev"
        refine ⟨⟨_, _, P.K 83 _ rfl, rfl⟩, s_nsmallest1 P (HF.set_self ..) fun nb hnb => ?_⟩
        walk_at "ev"
        have hds : da ≠ sb := fun q => by subst q; rw [HF.set_self] at hsb; cases hsb
        have hdn : da ≠ nb := fun q => by subst q; rw [HF.set_other hds, HF.set_self] at hnb; cases hnb
        refine cmp_ne_ni (xs := least (sums (L i) (L j))) (ys := if M i j < noneV ways then [M i j] else []) (HF.set_self ..) (by rw [HF.set_other hdn, HF.set_other hds, HF.set_self]) ?_
        have key : least (sums (L i) (L j)) = if M i j < noneV ways then [M i j] else [] := by
          rw [hS1 i hi, hS1 j hj5]; exact least_sums X h5 hi hj5
        rw [decide_eq_true key]
        walk_at "ev"
        refine ⟨fun q => (nomatch q), fun _ => ?_⟩
        walk_at "ev"
        have l2 := HF.Le.newK (x := .list (ni (sums (L i) (L j)))) (le_none l1 hsb) l1
        exact ⟨(), trivial, (by walk_at "vle"), HF.Le.newK (le_none l2 hnb) l2⟩
      · walk_at "ev"
        exact ⟨(), by omega, (by walk_at "vle"), HF.Le.refl _⟩
    · walk_at "ev"
      exact ⟨_, HF.Le.refl _, rfl⟩
end
end
section
theorem lookup_mem2 {α β : Type} [BEq α] [LawfulBEq α] {x : α} {v : β} : ∀ {l : List (α × β)}, l.lookup x = some v → (x, v) ∈ l
  | [], h => by cases h
  | (y, w) :: r, h => by
    rw [List.lookup_cons] at h
    cases q : x == y with
    | true => rw [q] at h; cases h; rw [eq_of_beq q]; exact List.mem_cons_self
    | false => rw [q] at h; exact List.mem_cons_of_mem _ (lookup_mem2 h)
theorem glob_names {w : World} {h : Heap} {mg mb : Str → Option Value} (KX : (Mine.KK w.params).In h) (hg : h.Ns mainGlobals mg) (hb : ∀ x : Str, x ≠ "__name__" → mb x = bootBuiltins x) :
    ∀ e ∈ globs, ∃ v, Den h e.2 v ∧ (mg e.1 = some v ∨ (mg e.1 = none ∧ mb e.1 = some v)) := by
  have hr : ∀ x k, PySem.W.nsIn (Mine.KK w.params) mainGlobals x = some (some (.ref k)) → ∃ v, Den h (.ref k) v ∧ (mg x = some v ∨ (mg x = none ∧ mb x = some v)) := fun x k e => ⟨_, rfl, .inl (PySem.W.mg_of KX hg e)⟩
  have hbu : ∀ x i, PySem.W.nsIn (Mine.KK w.params) mainGlobals x = some none → x ≠ "__name__" → bootBuiltins x = some (.builtin i) → ∃ v, Den h (.builtin i) v ∧ (mg x = some v ∨ (mg x = none ∧ mb x = some v)) := fun x i e n q => ⟨_, rfl, .inr ⟨PySem.W.mg_none_of KX hg e, (hb x n).trans q⟩⟩
  have hty : ∀ x i, PySem.W.nsIn (Mine.KK w.params) mainGlobals x = some none → x ≠ "__name__" → bootBuiltins x = some (.type i) → ∃ v, Den h (.type i) v ∧ (mg x = some v ∨ (mg x = none ∧ mb x = some v)) := fun x i e n q => ⟨_, rfl, .inr ⟨PySem.W.mg_none_of KX hg e, (hb x n).trans q⟩⟩
  unfold globs
  repeat' (first
    | refine List.forall_mem_cons.mpr ⟨?_, ?_⟩
    | exact fun _ q => absurd q List.not_mem_nil
    | exact hr _ _ (by kernel_rfl)
    | exact hbu _ _ (by kernel_rfl) (by decide) (by kernel_rfl)
    | exact hty _ _ (by kernel_rfl) (by decide) (by kernel_rfl))
  · exact ⟨.ref 84, ⟨84, #[.type "bytes", .type "bytearray"], rfl, KX 84 _ (by kernel_rfl), ⟨_, _, rfl, rfl, ⟨_, _, rfl, rfl, rfl⟩⟩⟩, .inl (PySem.W.mg_of KX hg (by kernel_rfl))⟩
  · exact ⟨.bytes b64tab.toArray 341, ⟨341, rfl⟩, .inl (PySem.W.mg_of KX hg (by kernel_rfl))⟩
theorem ints_den {h : Heap} : ∀ {vs : List Value} {ns : List Int}, IntsAre vs ns → DenL h (ns.map .int) vs
  | _, _, .nil => rfl
  | _, _, .cons n t r => ⟨_, _, rfl, ⟨t, rfl⟩, ints_den r⟩
theorem look1 : (PySem.W.namesResolve pE && pE.boundNames.all (fun n => !PySem.W.worldNames.contains n)) = true := by kernel_rfl
theorem look2 : PySem.W.noRoadLSs { strict := !(importedModules pE.main.body).all PySem.W.cThrough.contains, foot := none, bare := (["vars", "dir", "locals"] : List Str).filter (PySem.W.readsOut pE pE.main.body) } pE.main.body = true := by kernel_rfl
theorem look3 : (PySem.W.namesMeet pE pE.main.body fun _ n => PySem.W.attrL n) = true := by kernel_rfl
theorem look4 : (PySem.W.sreFenced pE.main && ((moduleNames pE.main.body).isEmpty || lookedIntoSs (moduleNames pE.main.body) pE.main.body)) = true := by kernel_rfl
theorem look_ok : PySem.W.looksOpen pE = true := by
  have h1 := (Bool.and_eq_true_iff.mp look1).1
  have h2 := (Bool.and_eq_true_iff.mp look1).2
  unfold PySem.W.looksOpen
  rw [look4, h1, h2, look2, look3]
  rfl
theorem part_ok : PySem.Challenge.rw_rt0019_01.row.partSaid = true := by
  unfold PySem.W.OpenRow.partSaid
  rw [look_ok]
  kernel_rfl
theorem row_ok : PySem.Challenge.rw_rt0019_01.row.wellSaid = true := by
  unfold PySem.W.OpenRow.wellSaid
  rw [part_ok]
  kernel_rfl
theorem said_ok : PySem.Challenge.rw_rt0019_01.wellSaid = true := by
  unfold PySem.W.OpenLaw.wellSaid
  rw [row_ok]
  kernel_rfl
theorem fin_law (hlaw : ∀ (g : G) (P : Prog g) (a : Addr) (vs : Array Value) (ns : List Int), g.h₀.IsList a vs → DenL g.h₀ (ns.map .int) vs.toList → ns.length ≤ 63 → Calls g 20 (.ref 222) [.ref a] [] (fun _ => none) (fun v _ => v = .bool true)) :
    PySem.Challenge.rw_rt0019_01.Holds := by
  w_on
  refine PySem.W.holds_law said_ok fun _ => ?_
  refine PySem.W.holds_open (q := qV) (loose := looseL) (Xt := xtF) (XP := PySem.W.XL qV []) (Yf := HK.obs) (Ya := HK.val) (YP := HK.says) (N := 2438) left_ok HK.of HK.keeps (fun s e => PySem.W.xl_of s (Bool.and_eq_true_iff.mp e).1) PySem.W.XL.keeps (by rfl) (by rfl) (by rfl) (fun s e => PySem.W.recFacts_of (Bool.and_eq_true_iff.mp e).2) rfl (by first | assumption | decide +kernel) (by decide +kernel) ⟨rfl, rfl, rfl, rfl, rfl, by decide +kernel⟩ ?hw ?hc
  case hw => w_witness2
  case hc =>
  intro w s₀ s₁ mg mb Gr Y fa o pm cd doc dV kV ho hd hcd hD hmg hg args vals as hpre hlay hrd hwl hlo
  have KX := PySem.W.kIn_of Y
  refine PySem.W.Ground.open Gr ?_
  intro T B D TE TW
  have efa : mg "law" = some (.ref 222) := PySem.W.mg_of KX T.g (by kernel_rfl)
  have efa2 : mg "law" = some (.ref fa) := hmg
  rw [efa] at efa2
  cases efa2
  clear hD hcd hd ho hmg
  wrow_args hpre hlay hrd hwl hlo
  all_goals (
    rename_i ns _ _ _ _ _ _ _ a vs _ hL _ _ _ hI _ hc _)
  have hns : ns.length ≤ 63 := by omega
  obtain ⟨gg, P, e1, e2, e3⟩ : ∃ gg : Mine.G, Prog gg ∧ gg.prog = PySem.Challenge.rw_rt0019_01.row.prog ∧ gg.w = w ∧ gg.h₀ = s₁.heap :=
    ⟨⟨PySem.Challenge.rw_rt0019_01.row.prog, w, s₁.heap, globs, T.nolimit, ⟨mg, mb, T.g, T.b, fun x p e => glob_names KX T.g T.builtins (x, p) (lookup_mem2 e)⟩⟩, ⟨KX, rfl⟩, rfl, rfl, rfl⟩
  have hl := hlaw gg P a vs.toArray ns (by rw [e3]; exact hL) (by rw [e3]; exact ints_den hI) hns
  have hI0 : HI gg [] (fun _ => none) (fun _ => none) s₁.heap := ⟨fun b o e => by rw [← e3]; exact e, fun b o e => (by cases e), fun b o e => (by cases e), fun b e => absurd e List.not_mem_nil⟩
  have hR : Room 20 [] callerA := ⟨rfl, by decide, by decide, [], rfl, rfl, fun _ e => absurd e List.not_mem_nil⟩
  have hh := Op.run (E := fun e s' => PySem.W.GoodWG PySem.Challenge.rw_rt0019_01.row.claim (classAt s₀.heap) (ExcName.means s₀.heap) [PySem.W.ofPy (PyData.list (List.map PyData.int ns))] s₁ (.error e) s') (hl (.ref 222) [.ref a] []) hR hI0 ⟨rfl, ⟨_, _, rfl, rfl, rfl⟩, rfl⟩
  rw [e1, e2] at hh
  refine wpAny_mono hh (fun v s' x => ?_) fun _ _ x => x
  obtain ⟨b, H', rfl, hd, hI', hs, _⟩ := x
  have hv : v = .bool true := hd
  subst hv
  refine PySem.W.GoodW.toG ⟨.inl ⟨.bool true, .bool true, [], rfl, fun _ => ?_, ?_, ?_, fun _ => ⟨List.nodup_nil, fun _ q => absurd q List.not_mem_nil⟩⟩, fun b o e => hI'.base b o (by rw [e3]; exact e), ?_, ?_⟩
  · rfl
  · constructor
  · wrow_post
  · rw [hs]
  · rw [hs]; exact hg
end
end Mine
end
theorem PySem.Challenge.cw_rt0019_01_holds : PySem.Challenge.rw_rt0019_01.Holds := by
  exact Mine.fin_law fun _ P _ _ _ hL hD hn => Mine.s_law P hL hD hn
