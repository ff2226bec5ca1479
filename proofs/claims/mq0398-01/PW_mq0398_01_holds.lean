import PyProof.Rows.All
import Wide.All
import OpenK.AllK
import Wide.FinOn
import Lean
import PySem.Challenge.RW_mq0398_01
set_option Elab.async false
set_option maxRecDepth 100000
set_option maxHeartbeats 8000000
set_option compiler.extract_closed false
/-! H0 -/
namespace Mine
open PySem PySem.W PySem.Calls PyProof.Rows PySem.Spec

/-- the law is well said. It stands first: the kernel's walk over the whole program is deep, and less of the stack is used so early -/
theorem said_ok : PySem.Challenge.rw_mq0398_01.wellSaid = true := (congrFun PySem.W.Fast.te9446332074065402090 _).trans (by decide +kernel)
/-! the program's parts, by their places -/
noncomputable def tp (i : Nat) : Stmt := PySem.Challenge.pw_mq0398_01.main.body.getD i (.Pass default)
noncomputable def md (i j : Nat) : Stmt := match tp i with
  | .ClassDef _ _ _ b _ _ _ _ _ _ _ => b.getD j (.Pass default)
  | st => st
noncomputable def prmOf : Stmt → Arguments
  | .FunctionDef _ a _ _ _ _ _ _ _ _ => a
  | _ => default
noncomputable def bdyOf : Stmt → List Stmt
  | .FunctionDef _ _ b _ _ _ _ _ _ _ => b
  | _ => []
noncomputable def scpOf : Stmt → Scope
  | .FunctionDef _ _ _ _ _ _ c _ _ _ => c
  | _ => default
noncomputable def hd.view_39 : Program := { PySem.Challenge.rw_mq0398_01.row.prog with main := { PySem.Challenge.rw_mq0398_01.row.prog.main with body := [tp 0, tp 1, tp 3, tp 5, tp 6, tp 7, tp 8, tp 9, tp 10, tp 11, tp 12, tp 14, tp 15, tp 16, tp 17, tp 18, tp 19, tp 21, tp 24, tp 25, tp 26, tp 27, tp 28, tp 29, tp 30, tp 31, tp 32, tp 33] } }
noncomputable abbrev loo : List Str := [Str.ofString "UnsupportedOperation", Str.ofString "IOBase", Str.ofString "BufferedIOBase", Str.ofString "TextIOBase", Str.ofString "BytesIO", Str.ofString "StringIO", Str.ofString "shlex", Str.ofString "split"]
theorem names_ok : namesOk hd.view_39 (looseW hd.view_39 loo) (namesW hd.view_39 loo) = true := by decide +kernel
theorem imports_ok : importsNone hd.view_39 = true := by decide +kernel

/-! the heap behind the top -/
namespace Kt
noncomputable abbrev n : Value := .none
noncomputable abbrev s (x : String) (t : Tok) : Value := .str (Str.ofString x) t
noncomputable abbrev r (a : Addr) : Value := .ref a
noncomputable abbrev e (P : Params) (x : String) (t : Tok) (v : Value) : DictEntry := ⟨PyData.keyHash P (Str.ofString x), .str (Str.ofString x) t, v⟩
noncomputable def fn (st : Stmt) (nm qual : String) (dV kV doc pm : Value) (an : Option Addr) (cdv : Value) : Obj :=
  ⟨.type "function", none, .func (fnOf (Str.ofString nm) (Str.ofString qual) (prmOf st) (bdyOf st) (scpOf st) dV kV doc pm an cdv .none), #[]⟩
end Kt
section
open Kt
noncomputable def hd.heap_39 (P : Params) : Frag :=
  (nat_lit 2, ⟨n, none, .dict ⟨[e P "\x69mport.loaded._collections" 185 (.bool true), e P "class._frozen_importlib.BuiltinImporter" 187 (r 15), e P "watched.\x69mport" 208 (r 19), e P "class._frozen_importlib.ModuleSpec" 218 (r 23), e P "sys.modules.booked-epoch" 247 (.int 3 0), e P "sys.modules.landed._collections" 248 (.bool true), e P "\x69mport.later-laid._collections" 263 (.bool true), e P "watched.library" 265 (r 28), e P "watched.library-objects" 0 (s "\x0d" 0), e P "watched.library-deep._collections" 266 (s "\x04\x00\x00\x0c\x04\x00\x00\x0c\x04\x00\x00\x03\x04\x00\x00\x0c\x08\x04dict\x02" 0), e P "type.__subclasses__.OSError.0" 330 (.int 68 0), e P "type.__subclasses__.OSError.n" 331 (.int 1 0)]⟩ 12, #[]⟩) ::
  (nat_lit 3, ⟨(.type "dict"), none, .dict ⟨[e P "__name__" 165 (s "law_mq0398_01" 1160), e P "__doc__" 166 n, e P "__package__" 167 n, e P "__loader__" 168 (.builtin "__main__.__loader__#opaque"), e P "__spec__" 169 n, e P "__annotations__" 170 (r 6), e P "__builtins__" 171 (r 4), e P "__file__" 173 (s "/claim/cut.py" 172), e P "__cached__" 174 n, e P "deque" 272 (.type "collections.deque"), e P "_wall" 285 (r 39), e P "parse_http_list" 293 (r 44), e P "_whence" 303 (r 51), e P "_index" 311 (r 58), e P "UnsupportedOperation" 333 (r 68), e P "IOBase" 365 (r 88), e P "BufferedIOBase" 383 (r 103), e P "TextIOBase" 401 (r 115), e P "BytesIO" 663 (r 345), e P "StringIO" 950 (r 592), e P "_kind" 961 (r 601), e P "_fspath" 970 (r 608), e P "_check_arg_types" 980 (r 615), e P "isabs" 987 (r 622), e P "join" 998 (r 629), e P "dirname" 1008 (r 636), e P "shlex" 1149 (r 727), e P "split" 1159 (r 739), e P "_law_outside" 1170 (r 746), e P "_law_inside" 1179 (r 753), e P "_law_row" 1191 (r 760), e P "_law_mended" 1200 (r 767), e P "_law_cut" 1210 (r 774), e P "_law_tokens" 1220 (r 781), e P "_law_told_by_split" 1228 (r 788), e P "_law_told_by_lexer" 1240 (r 795), e P "_law_agrees" 1246 (r 800), e P "law" 1256 (r 807)]⟩ 38, #[]⟩) ::
  (nat_lit 33, ⟨(.type "tuple"), none, .seq ⟨[]⟩ 0, #[]⟩) ::
  (nat_lit 35, ⟨(.type "tuple"), none, .seq ⟨[(s "k" 282)]⟩ 0, #[]⟩) ::
  (nat_lit 36, ⟨(.type "tuple"), none, .seq ⟨[]⟩ 0, #[]⟩) ::
  (nat_lit 38, ⟨(.type "code"), none, .fields ⟨[(s "_wall" 279), (s "_wall" 280), (s "/claim/cut.py" 281), (.int 2 0), (.int 1 0), (.int 0 0), (.int 0 0), (.int 3 0), (r 33), (.bool true), (.int 273 0), (r 34), n, (r 35), (r 36), (r 37), (.int 283 0), (.int 2 0), (s "/claim/cut.py" 284)]⟩, #[]⟩) ::
  (nat_lit 39, fn (tp 1) "_wall" "_wall" n n n (s "__main__" 164) none (r 38)) ::
  (nat_lit 40, ⟨(.type "tuple"), none, .seq ⟨[]⟩ 0, #[]⟩) ::
  (nat_lit 43, ⟨(.type "code"), none, .fields ⟨[(s "parse_http_list" 288), (s "parse_http_list" 289), (s "/claim/cut.py" 290), (.int 6 0), (.int 1 0), (.int 0 0), (.int 0 0), (.int 3 0), (r 40), (.bool true), (.int 273 0), (r 41), n, n, n, (r 42), (.int 291 0), (.int 6 0), (s "/claim/cut.py" 292)]⟩, #[]⟩) ::
  (nat_lit 44, fn (tp 3) "parse_http_list" "parse_http_list" n n n (s "cpy313.urllib.request" 286) none (r 43)) ::
  (nat_lit 45, ⟨(.type "tuple"), none, .seq ⟨[]⟩ 0, #[]⟩) ::
  (nat_lit 47, ⟨(.type "tuple"), none, .seq ⟨[(s "n" 299), (s "what" 300)]⟩ 0, #[]⟩) ::
  (nat_lit 48, ⟨(.type "tuple"), none, .seq ⟨[]⟩ 0, #[]⟩) ::
  (nat_lit 50, ⟨(.type "code"), none, .fields ⟨[(s "_whence" 296), (s "_whence" 297), (s "/claim/cut.py" 298), (.int 34 0), (.int 2 0), (.int 0 0), (.int 0 0), (.int 3 0), (r 45), (.bool true), (.int 273 0), (r 46), n, (r 47), (r 48), (r 49), (.int 301 0), (.int 34 0), (s "/claim/cut.py" 302)]⟩, #[]⟩) ::
  (nat_lit 51, fn (tp 5) "_whence" "_whence" n n n (s "io" 294) none (r 50)) ::
  (nat_lit 52, ⟨(.type "tuple"), none, .seq ⟨[]⟩ 0, #[]⟩) ::
  (nat_lit 54, ⟨(.type "tuple"), none, .seq ⟨[(s "n" 307), (s "what" 308)]⟩ 0, #[]⟩) ::
  (nat_lit 55, ⟨(.type "tuple"), none, .seq ⟨[]⟩ 0, #[]⟩) ::
  (nat_lit 57, ⟨(.type "code"), none, .fields ⟨[(s "_index" 304), (s "_index" 305), (s "/claim/cut.py" 306), (.int 39 0), (.int 2 0), (.int 0 0), (.int 0 0), (.int 3 0), (r 52), (.bool true), (.int 273 0), (r 53), n, (r 54), (r 55), (r 56), (.int 309 0), (.int 39 0), (s "/claim/cut.py" 310)]⟩, #[]⟩) ::
  (nat_lit 58, fn (tp 6) "_index" "_index" n n n (s "io" 294) none (r 57)) ::
  (nat_lit 59, ⟨(.type "tuple"), none, .seq ⟨[(.type "OSError"), (.type "ValueError")]⟩ 0, #[]⟩) ::
  (nat_lit 66, ⟨(.type "tuple"), none, .seq ⟨[]⟩ 0, #[]⟩) ::
  (nat_lit 67, ⟨(.type "dict"), none, .dict ⟨[e P "__module__" 319 (s "io" 324), e P "__firstlineno__" 323 (.int 46 322), e P "__static_attributes__" 326 (r 66), e P "__weakref__" 328 (r 69), e P "__doc__" 329 n]⟩ 3, #[]⟩) ::
  (nat_lit 68, ⟨(.type "type"), none, .cls { name := Str.ofString "UnsupportedOperation", bases := [(.type "OSError"), (.type "ValueError")], mro := [(r 68), (.type "OSError"), (.type "ValueError"), (.type "Exception"), (.type "BaseException"), (.type "object")], ns := 67, qualname := Str.ofString "UnsupportedOperation", subclasses := [] }, #[some (r 59), none, some (s "UnsupportedOperation" 312), some (s "UnsupportedOperation" 320), some (.builtin "OSError.__new__"), some (.bool true)]⟩) ::
  (nat_lit 69, ⟨(.type "getset_descriptor"), none, .fields ⟨[(s "__weakref__" 327), (r 68), (.builtin "ExceptionGroup.__weakref__"), n]⟩, #[]⟩) ::
  (nat_lit 79, ⟨(.type "tuple"), none, .seq ⟨[]⟩ 0, #[]⟩) ::
  (nat_lit 81, ⟨(.type "tuple"), none, .seq ⟨[(s "cls" 351), (s "args" 352), (s "kwargs" 353)]⟩ 0, #[]⟩) ::
  (nat_lit 82, ⟨(.type "tuple"), none, .seq ⟨[]⟩ 0, #[]⟩) ::
  (nat_lit 84, ⟨(.type "code"), none, .fields ⟨[(s "__new__" 348), (s "IOBase.__new__" 349), (s "/claim/cut.py" 350), (.int 51 0), (.int 1 0), (.int 1 0), (.int 0 0), (.int 15 0), (r 79), (.bool true), (.int 273 0), (r 80), n, (r 81), (r 82), (r 83), (.int 354 0), (.int 51 0), (s "/claim/cut.py" 355)]⟩, #[]⟩) ::
  (nat_lit 85, fn (md 8 1) "__new__" "IOBase.__new__" n n n (s "io" 294) none (r 84)) ::
  (nat_lit 86, ⟨(.type "tuple"), none, .seq ⟨[]⟩ 0, #[]⟩) ::
  (nat_lit 87, ⟨(.type "dict"), none, .dict ⟨[e P "__module__" 341 (s "io" 346), e P "__firstlineno__" 345 (.int 48 344), e P "__new__" 356 (r 89), e P "__static_attributes__" 357 (r 86), e P "__dict__" 360 (r 90), e P "__weakref__" 362 (r 91), e P "__doc__" 363 n]⟩ 4, #[]⟩) ::
  (nat_lit 88, ⟨(.type "type"), none, .cls { name := Str.ofString "IOBase", bases := [(.type "object")], mro := [(r 88), (.type "object")], ns := 87, qualname := Str.ofString "IOBase", subclasses := [(r 103), (r 115)] }, #[none, none, some (s "IOBase" 334), some (s "IOBase" 342), some n, some (.bool true)]⟩) ::
  (nat_lit 89, ⟨(.type "staticmethod"), none, .fields ⟨[(r 85)]⟩, #[]⟩) ::
  (nat_lit 90, ⟨(.type "getset_descriptor"), none, .fields ⟨[(s "__dict__" 359), (r 88), (.builtin "function.__dict__"), (.builtin "function.__dict__#set")]⟩, #[]⟩) ::
  (nat_lit 91, ⟨(.type "getset_descriptor"), none, .fields ⟨[(s "__weakref__" 361), (r 88), (.builtin "ExceptionGroup.__weakref__"), n]⟩, #[]⟩) ::
  (nat_lit 94, ⟨(.type "tuple"), none, .seq ⟨[(r 88)]⟩ 0, #[]⟩) ::
  (nat_lit 101, ⟨(.type "tuple"), none, .seq ⟨[]⟩ 0, #[]⟩) ::
  (nat_lit 102, ⟨(.type "dict"), none, .dict ⟨[e P "__module__" 373 (s "io" 378), e P "__firstlineno__" 377 (.int 55 376), e P "__static_attributes__" 380 (r 101), e P "__doc__" 381 n]⟩ 2, #[]⟩) ::
  (nat_lit 103, ⟨(.type "type"), none, .cls { name := Str.ofString "BufferedIOBase", bases := [(r 88)], mro := [(r 103), (r 88), (.type "object")], ns := 102, qualname := Str.ofString "BufferedIOBase", subclasses := [(r 345)] }, #[some (r 94), none, some (s "BufferedIOBase" 366), some (s "BufferedIOBase" 374), some n, some (.bool true)]⟩) ::
  (nat_lit 106, ⟨(.type "tuple"), none, .seq ⟨[(r 88)]⟩ 0, #[]⟩) ::
  (nat_lit 113, ⟨(.type "tuple"), none, .seq ⟨[]⟩ 0, #[]⟩) ::
  (nat_lit 114, ⟨(.type "dict"), none, .dict ⟨[e P "__module__" 391 (s "io" 396), e P "__firstlineno__" 395 (.int 57 394), e P "__static_attributes__" 398 (r 113), e P "__doc__" 399 n]⟩ 2, #[]⟩) ::
  (nat_lit 115, ⟨(.type "type"), none, .cls { name := Str.ofString "TextIOBase", bases := [(r 88)], mro := [(r 115), (r 88), (.type "object")], ns := 114, qualname := Str.ofString "TextIOBase", subclasses := [(r 592)] }, #[some (r 106), none, some (s "TextIOBase" 384), some (s "TextIOBase" 392), some n, some (.bool true)]⟩) ::
  (nat_lit 118, ⟨(.type "tuple"), none, .seq ⟨[(r 103)]⟩ 0, #[]⟩) ::
  (nat_lit 125, ⟨(.type "tuple"), none, .seq ⟨[n]⟩ 0, #[]⟩) ::
  (nat_lit 126, ⟨(.type "tuple"), none, .seq ⟨[]⟩ 0, #[]⟩) ::
  (nat_lit 128, ⟨(.type "tuple"), none, .seq ⟨[(s "self" 419), (s "initial_bytes" 420)]⟩ 0, #[]⟩) ::
  (nat_lit 129, ⟨(.type "tuple"), none, .seq ⟨[]⟩ 0, #[]⟩) ::
  (nat_lit 131, ⟨(.type "code"), none, .fields ⟨[(s "__init__" 416), (s "BytesIO.__init__" 417), (s "/claim/cut.py" 418), (.int 62 0), (.int 2 0), (.int 0 0), (.int 0 0), (.int 3 0), (r 126), (.bool true), (.int 273 0), (r 127), n, (r 128), (r 129), (r 130), (.int 421 0), (.int 62 0), (s "/claim/cut.py" 422)]⟩, #[]⟩) ::
  (nat_lit 132, fn (md 11 1) "__init__" "BytesIO.__init__" (r 125) n n (s "io" 294) none (r 131)) ::
  (nat_lit 133, ⟨(.type "tuple"), none, .seq ⟨[]⟩ 0, #[]⟩) ::
  (nat_lit 135, ⟨(.type "tuple"), none, .seq ⟨[(s "self" 427)]⟩ 0, #[]⟩) ::
  (nat_lit 136, ⟨(.type "tuple"), none, .seq ⟨[]⟩ 0, #[]⟩) ::
  (nat_lit 138, ⟨(.type "code"), none, .fields ⟨[(s "__check" 424), (s "BytesIO.__check" 425), (s "/claim/cut.py" 426), (.int 68 0), (.int 1 0), (.int 0 0), (.int 0 0), (.int 3 0), (r 133), (.bool true), (.int 273 0), (r 134), n, (r 135), (r 136), (r 137), (.int 428 0), (.int 68 0), (s "/claim/cut.py" 429)]⟩, #[]⟩) ::
  (nat_lit 139, fn (md 11 2) "__check" "BytesIO.__check" n n n (s "io" 294) none (r 138)) ::
  (nat_lit 140, ⟨(.type "tuple"), none, .seq ⟨[]⟩ 0, #[]⟩) ::
  (nat_lit 142, ⟨(.type "tuple"), none, .seq ⟨[(s "self" 434), (s "limit" 435), (s "start" 436), (s "stop" 437), (s "i" 438)]⟩ 0, #[]⟩) ::
  (nat_lit 143, ⟨(.type "tuple"), none, .seq ⟨[]⟩ 0, #[]⟩) ::
  (nat_lit 145, ⟨(.type "code"), none, .fields ⟨[(s "__line" 431), (s "BytesIO.__line" 432), (s "/claim/cut.py" 433), (.int 72 0), (.int 2 0), (.int 0 0), (.int 0 0), (.int 3 0), (r 140), (.bool true), (.int 273 0), (r 141), n, (r 142), (r 143), (r 144), (.int 439 0), (.int 72 0), (s "/claim/cut.py" 440)]⟩, #[]⟩) ::
  (nat_lit 146, fn (md 11 3) "__line" "BytesIO.__line" n n n (s "io" 294) none (r 145)) ::
  (nat_lit 147, ⟨(.type "tuple"), none, .seq ⟨[]⟩ 0, #[]⟩) ::
  (nat_lit 149, ⟨(.type "tuple"), none, .seq ⟨[(s "self" 445)]⟩ 0, #[]⟩) ::
  (nat_lit 150, ⟨(.type "tuple"), none, .seq ⟨[]⟩ 0, #[]⟩) ::
  (nat_lit 152, ⟨(.type "code"), none, .fields ⟨[(s "closed" 442), (s "BytesIO.closed" 443), (s "/claim/cut.py" 444), (.int 85 0), (.int 1 0), (.int 0 0), (.int 0 0), (.int 3 0), (r 147), (.bool true), (.int 273 0), (r 148), n, (r 149), (r 150), (r 151), (.int 446 0), (.int 85 0), (s "/claim/cut.py" 447)]⟩, #[]⟩) ::
  (nat_lit 153, fn (md 11 4) "closed" "BytesIO.closed" n n n (s "io" 294) none (r 152)) ::
  (nat_lit 154, ⟨(.type "property"), none, .fields ⟨[(r 153), n, n, n, (s "closed" 449), (.bool false)]⟩, #[]⟩) ::
  (nat_lit 155, ⟨(.type "tuple"), none, .seq ⟨[]⟩ 0, #[]⟩) ::
  (nat_lit 157, ⟨(.type "tuple"), none, .seq ⟨[(s "self" 453)]⟩ 0, #[]⟩) ::
  (nat_lit 158, ⟨(.type "tuple"), none, .seq ⟨[]⟩ 0, #[]⟩) ::
  (nat_lit 160, ⟨(.type "code"), none, .fields ⟨[(s "close" 450), (s "BytesIO.close" 451), (s "/claim/cut.py" 452), (.int 89 0), (.int 1 0), (.int 0 0), (.int 0 0), (.int 3 0), (r 155), (.bool true), (.int 273 0), (r 156), n, (r 157), (r 158), (r 159), (.int 454 0), (.int 89 0), (s "/claim/cut.py" 455)]⟩, #[]⟩) ::
  (nat_lit 161, fn (md 11 5) "close" "BytesIO.close" n n n (s "io" 294) none (r 160)) ::
  (nat_lit 162, ⟨(.type "tuple"), none, .seq ⟨[]⟩ 0, #[]⟩) ::
  (nat_lit 164, ⟨(.type "tuple"), none, .seq ⟨[(s "self" 460)]⟩ 0, #[]⟩) ::
  (nat_lit 165, ⟨(.type "tuple"), none, .seq ⟨[]⟩ 0, #[]⟩) ::
  (nat_lit 167, ⟨(.type "code"), none, .fields ⟨[(s "__enter__" 457), (s "BytesIO.__enter__" 458), (s "/claim/cut.py" 459), (.int 92 0), (.int 1 0), (.int 0 0), (.int 0 0), (.int 3 0), (r 162), (.bool true), (.int 273 0), (r 163), n, (r 164), (r 165), (r 166), (.int 461 0), (.int 92 0), (s "/claim/cut.py" 462)]⟩, #[]⟩) ::
  (nat_lit 168, fn (md 11 6) "__enter__" "BytesIO.__enter__" n n n (s "io" 294) none (r 167)) ::
  (nat_lit 169, ⟨(.type "tuple"), none, .seq ⟨[]⟩ 0, #[]⟩) ::
  (nat_lit 171, ⟨(.type "tuple"), none, .seq ⟨[(s "self" 467), (s "args" 468)]⟩ 0, #[]⟩) ::
  (nat_lit 172, ⟨(.type "tuple"), none, .seq ⟨[]⟩ 0, #[]⟩) ::
  (nat_lit 174, ⟨(.type "code"), none, .fields ⟨[(s "__exit__" 464), (s "BytesIO.__exit__" 465), (s "/claim/cut.py" 466), (.int 96 0), (.int 1 0), (.int 0 0), (.int 0 0), (.int 7 0), (r 169), (.bool true), (.int 273 0), (r 170), n, (r 171), (r 172), (r 173), (.int 469 0), (.int 96 0), (s "/claim/cut.py" 470)]⟩, #[]⟩) ::
  (nat_lit 175, fn (md 11 7) "__exit__" "BytesIO.__exit__" n n n (s "io" 294) none (r 174)) ::
  (nat_lit 176, ⟨(.type "tuple"), none, .seq ⟨[]⟩ 0, #[]⟩) ::
  (nat_lit 178, ⟨(.type "tuple"), none, .seq ⟨[(s "self" 475)]⟩ 0, #[]⟩) ::
  (nat_lit 179, ⟨(.type "tuple"), none, .seq ⟨[]⟩ 0, #[]⟩) ::
  (nat_lit 181, ⟨(.type "code"), none, .fields ⟨[(s "readable" 472), (s "BytesIO.readable" 473), (s "/claim/cut.py" 474), (.int 99 0), (.int 1 0), (.int 0 0), (.int 0 0), (.int 3 0), (r 176), (.bool true), (.int 273 0), (r 177), n, (r 178), (r 179), (r 180), (.int 476 0), (.int 99 0), (s "/claim/cut.py" 477)]⟩, #[]⟩) ::
  (nat_lit 182, fn (md 11 8) "readable" "BytesIO.readable" n n n (s "io" 294) none (r 181)) ::
  (nat_lit 183, ⟨(.type "tuple"), none, .seq ⟨[]⟩ 0, #[]⟩) ::
  (nat_lit 185, ⟨(.type "tuple"), none, .seq ⟨[(s "self" 482)]⟩ 0, #[]⟩) ::
  (nat_lit 186, ⟨(.type "tuple"), none, .seq ⟨[]⟩ 0, #[]⟩) ::
  (nat_lit 188, ⟨(.type "code"), none, .fields ⟨[(s "writable" 479), (s "BytesIO.writable" 480), (s "/claim/cut.py" 481), (.int 103 0), (.int 1 0), (.int 0 0), (.int 0 0), (.int 3 0), (r 183), (.bool true), (.int 273 0), (r 184), n, (r 185), (r 186), (r 187), (.int 483 0), (.int 103 0), (s "/claim/cut.py" 484)]⟩, #[]⟩) ::
  (nat_lit 189, fn (md 11 9) "writable" "BytesIO.writable" n n n (s "io" 294) none (r 188)) ::
  (nat_lit 190, ⟨(.type "tuple"), none, .seq ⟨[]⟩ 0, #[]⟩) ::
  (nat_lit 192, ⟨(.type "tuple"), none, .seq ⟨[(s "self" 489)]⟩ 0, #[]⟩) ::
  (nat_lit 193, ⟨(.type "tuple"), none, .seq ⟨[]⟩ 0, #[]⟩) ::
  (nat_lit 195, ⟨(.type "code"), none, .fields ⟨[(s "seekable" 486), (s "BytesIO.seekable" 487), (s "/claim/cut.py" 488), (.int 107 0), (.int 1 0), (.int 0 0), (.int 0 0), (.int 3 0), (r 190), (.bool true), (.int 273 0), (r 191), n, (r 192), (r 193), (r 194), (.int 490 0), (.int 107 0), (s "/claim/cut.py" 491)]⟩, #[]⟩) ::
  (nat_lit 196, fn (md 11 10) "seekable" "BytesIO.seekable" n n n (s "io" 294) none (r 195)) ::
  (nat_lit 197, ⟨(.type "tuple"), none, .seq ⟨[]⟩ 0, #[]⟩) ::
  (nat_lit 199, ⟨(.type "tuple"), none, .seq ⟨[(s "self" 496)]⟩ 0, #[]⟩) ::
  (nat_lit 200, ⟨(.type "tuple"), none, .seq ⟨[]⟩ 0, #[]⟩) ::
  (nat_lit 202, ⟨(.type "code"), none, .fields ⟨[(s "isatty" 493), (s "BytesIO.isatty" 494), (s "/claim/cut.py" 495), (.int 111 0), (.int 1 0), (.int 0 0), (.int 0 0), (.int 3 0), (r 197), (.bool true), (.int 273 0), (r 198), n, (r 199), (r 200), (r 201), (.int 497 0), (.int 111 0), (s "/claim/cut.py" 498)]⟩, #[]⟩) ::
  (nat_lit 203, fn (md 11 11) "isatty" "BytesIO.isatty" n n n (s "io" 294) none (r 202)) ::
  (nat_lit 204, ⟨(.type "tuple"), none, .seq ⟨[]⟩ 0, #[]⟩) ::
  (nat_lit 206, ⟨(.type "tuple"), none, .seq ⟨[(s "self" 503)]⟩ 0, #[]⟩) ::
  (nat_lit 207, ⟨(.type "tuple"), none, .seq ⟨[]⟩ 0, #[]⟩) ::
  (nat_lit 209, ⟨(.type "code"), none, .fields ⟨[(s "flush" 500), (s "BytesIO.flush" 501), (s "/claim/cut.py" 502), (.int 115 0), (.int 1 0), (.int 0 0), (.int 0 0), (.int 3 0), (r 204), (.bool true), (.int 273 0), (r 205), n, (r 206), (r 207), (r 208), (.int 504 0), (.int 115 0), (s "/claim/cut.py" 505)]⟩, #[]⟩) ::
  (nat_lit 210, fn (md 11 12) "flush" "BytesIO.flush" n n n (s "io" 294) none (r 209)) ::
  (nat_lit 211, ⟨(.type "tuple"), none, .seq ⟨[]⟩ 0, #[]⟩) ::
  (nat_lit 213, ⟨(.type "tuple"), none, .seq ⟨[(s "self" 510)]⟩ 0, #[]⟩) ::
  (nat_lit 214, ⟨(.type "tuple"), none, .seq ⟨[]⟩ 0, #[]⟩) ::
  (nat_lit 216, ⟨(.type "code"), none, .fields ⟨[(s "fileno" 507), (s "BytesIO.fileno" 508), (s "/claim/cut.py" 509), (.int 118 0), (.int 1 0), (.int 0 0), (.int 0 0), (.int 3 0), (r 211), (.bool true), (.int 273 0), (r 212), n, (r 213), (r 214), (r 215), (.int 511 0), (.int 118 0), (s "/claim/cut.py" 512)]⟩, #[]⟩) ::
  (nat_lit 217, fn (md 11 13) "fileno" "BytesIO.fileno" n n n (s "io" 294) none (r 216)) ::
  (nat_lit 218, ⟨(.type "tuple"), none, .seq ⟨[]⟩ 0, #[]⟩) ::
  (nat_lit 220, ⟨(.type "tuple"), none, .seq ⟨[(s "self" 517)]⟩ 0, #[]⟩) ::
  (nat_lit 221, ⟨(.type "tuple"), none, .seq ⟨[]⟩ 0, #[]⟩) ::
  (nat_lit 223, ⟨(.type "code"), none, .fields ⟨[(s "detach" 514), (s "BytesIO.detach" 515), (s "/claim/cut.py" 516), (.int 121 0), (.int 1 0), (.int 0 0), (.int 0 0), (.int 3 0), (r 218), (.bool true), (.int 273 0), (r 219), n, (r 220), (r 221), (r 222), (.int 518 0), (.int 121 0), (s "/claim/cut.py" 519)]⟩, #[]⟩) ::
  (nat_lit 224, fn (md 11 14) "detach" "BytesIO.detach" n n n (s "io" 294) none (r 223)) ::
  (nat_lit 225, ⟨(.type "tuple"), none, .seq ⟨[]⟩ 0, #[]⟩) ::
  (nat_lit 227, ⟨(.type "tuple"), none, .seq ⟨[(s "self" 524)]⟩ 0, #[]⟩) ::
  (nat_lit 228, ⟨(.type "tuple"), none, .seq ⟨[]⟩ 0, #[]⟩) ::
  (nat_lit 230, ⟨(.type "code"), none, .fields ⟨[(s "getvalue" 521), (s "BytesIO.getvalue" 522), (s "/claim/cut.py" 523), (.int 124 0), (.int 1 0), (.int 0 0), (.int 0 0), (.int 3 0), (r 225), (.bool true), (.int 273 0), (r 226), n, (r 227), (r 228), (r 229), (.int 525 0), (.int 124 0), (s "/claim/cut.py" 526)]⟩, #[]⟩) ::
  (nat_lit 231, fn (md 11 15) "getvalue" "BytesIO.getvalue" n n n (s "io" 294) none (r 230)) ::
  (nat_lit 232, ⟨(.type "tuple"), none, .seq ⟨[]⟩ 0, #[]⟩) ::
  (nat_lit 234, ⟨(.type "tuple"), none, .seq ⟨[(s "self" 531)]⟩ 0, #[]⟩) ::
  (nat_lit 235, ⟨(.type "tuple"), none, .seq ⟨[]⟩ 0, #[]⟩) ::
  (nat_lit 237, ⟨(.type "code"), none, .fields ⟨[(s "getbuffer" 528), (s "BytesIO.getbuffer" 529), (s "/claim/cut.py" 530), (.int 127 0), (.int 1 0), (.int 0 0), (.int 0 0), (.int 3 0), (r 232), (.bool true), (.int 273 0), (r 233), n, (r 234), (r 235), (r 236), (.int 532 0), (.int 127 0), (s "/claim/cut.py" 533)]⟩, #[]⟩) ::
  (nat_lit 238, fn (md 11 16) "getbuffer" "BytesIO.getbuffer" n n n (s "io" 294) none (r 237)) ::
  (nat_lit 239, ⟨(.type "tuple"), none, .seq ⟨[]⟩ 0, #[]⟩) ::
  (nat_lit 241, ⟨(.type "tuple"), none, .seq ⟨[(s "self" 538)]⟩ 0, #[]⟩) ::
  (nat_lit 242, ⟨(.type "tuple"), none, .seq ⟨[]⟩ 0, #[]⟩) ::
  (nat_lit 244, ⟨(.type "code"), none, .fields ⟨[(s "tell" 535), (s "BytesIO.tell" 536), (s "/claim/cut.py" 537), (.int 130 0), (.int 1 0), (.int 0 0), (.int 0 0), (.int 3 0), (r 239), (.bool true), (.int 273 0), (r 240), n, (r 241), (r 242), (r 243), (.int 539 0), (.int 130 0), (s "/claim/cut.py" 540)]⟩, #[]⟩) ::
  (nat_lit 245, fn (md 11 17) "tell" "BytesIO.tell" n n n (s "io" 294) none (r 244)) ::
  (nat_lit 246, ⟨(.type "tuple"), none, .seq ⟨[(.int 0 542)]⟩ 0, #[]⟩) ::
  (nat_lit 247, ⟨(.type "tuple"), none, .seq ⟨[]⟩ 0, #[]⟩) ::
  (nat_lit 249, ⟨(.type "tuple"), none, .seq ⟨[(s "self" 546), (s "pos" 547), (s "whence" 548)]⟩ 0, #[]⟩) ::
  (nat_lit 250, ⟨(.type "tuple"), none, .seq ⟨[]⟩ 0, #[]⟩) ::
  (nat_lit 252, ⟨(.type "code"), none, .fields ⟨[(s "seek" 543), (s "BytesIO.seek" 544), (s "/claim/cut.py" 545), (.int 134 0), (.int 3 0), (.int 3 0), (.int 0 0), (.int 3 0), (r 247), (.bool true), (.int 273 0), (r 248), n, (r 249), (r 250), (r 251), (.int 549 0), (.int 134 0), (s "/claim/cut.py" 550)]⟩, #[]⟩) ::
  (nat_lit 253, fn (md 11 18) "seek" "BytesIO.seek" (r 246) n n (s "io" 294) none (r 252)) ::
  (nat_lit 254, ⟨(.type "tuple"), none, .seq ⟨[n]⟩ 0, #[]⟩) ::
  (nat_lit 255, ⟨(.type "tuple"), none, .seq ⟨[]⟩ 0, #[]⟩) ::
  (nat_lit 257, ⟨(.type "tuple"), none, .seq ⟨[(s "self" 555), (s "size" 556)]⟩ 0, #[]⟩) ::
  (nat_lit 258, ⟨(.type "tuple"), none, .seq ⟨[]⟩ 0, #[]⟩) ::
  (nat_lit 260, ⟨(.type "code"), none, .fields ⟨[(s "truncate" 552), (s "BytesIO.truncate" 553), (s "/claim/cut.py" 554), (.int 151 0), (.int 2 0), (.int 2 0), (.int 0 0), (.int 3 0), (r 255), (.bool true), (.int 273 0), (r 256), n, (r 257), (r 258), (r 259), (.int 557 0), (.int 151 0), (s "/claim/cut.py" 558)]⟩, #[]⟩) ::
  (nat_lit 261, fn (md 11 19) "truncate" "BytesIO.truncate" (r 254) n n (s "io" 294) none (r 260)) ::
  (nat_lit 262, ⟨(.type "tuple"), none, .seq ⟨[(.int (-1) 561)]⟩ 0, #[]⟩) ::
  (nat_lit 263, ⟨(.type "tuple"), none, .seq ⟨[]⟩ 0, #[]⟩) ::
  (nat_lit 265, ⟨(.type "tuple"), none, .seq ⟨[(s "self" 565), (s "size" 566), (s "start" 567), (s "stop" 568)]⟩ 0, #[]⟩) ::
  (nat_lit 266, ⟨(.type "tuple"), none, .seq ⟨[]⟩ 0, #[]⟩) ::
  (nat_lit 268, ⟨(.type "code"), none, .fields ⟨[(s "read" 562), (s "BytesIO.read" 563), (s "/claim/cut.py" 564), (.int 154 0), (.int 2 0), (.int 2 0), (.int 0 0), (.int 3 0), (r 263), (.bool true), (.int 273 0), (r 264), n, (r 265), (r 266), (r 267), (.int 569 0), (.int 154 0), (s "/claim/cut.py" 570)]⟩, #[]⟩) ::
  (nat_lit 269, fn (md 11 20) "read" "BytesIO.read" (r 262) n n (s "io" 294) none (r 268)) ::
  (nat_lit 270, ⟨(.type "tuple"), none, .seq ⟨[(.int (-1) 573)]⟩ 0, #[]⟩) ::
  (nat_lit 271, ⟨(.type "tuple"), none, .seq ⟨[]⟩ 0, #[]⟩) ::
  (nat_lit 273, ⟨(.type "tuple"), none, .seq ⟨[(s "self" 577), (s "size" 578)]⟩ 0, #[]⟩) ::
  (nat_lit 274, ⟨(.type "tuple"), none, .seq ⟨[]⟩ 0, #[]⟩) ::
  (nat_lit 276, ⟨(.type "code"), none, .fields ⟨[(s "read1" 574), (s "BytesIO.read1" 575), (s "/claim/cut.py" 576), (.int 168 0), (.int 2 0), (.int 2 0), (.int 0 0), (.int 3 0), (r 271), (.bool true), (.int 273 0), (r 272), n, (r 273), (r 274), (r 275), (.int 579 0), (.int 168 0), (s "/claim/cut.py" 580)]⟩, #[]⟩) ::
  (nat_lit 277, fn (md 11 21) "read1" "BytesIO.read1" (r 270) n n (s "io" 294) none (r 276)) ::
  (nat_lit 278, ⟨(.type "tuple"), none, .seq ⟨[]⟩ 0, #[]⟩) ::
  (nat_lit 280, ⟨(.type "tuple"), none, .seq ⟨[(s "self" 585), (s "buffer" 586), (s "start" 587), (s "n" 588)]⟩ 0, #[]⟩) ::
  (nat_lit 281, ⟨(.type "tuple"), none, .seq ⟨[]⟩ 0, #[]⟩) ::
  (nat_lit 283, ⟨(.type "code"), none, .fields ⟨[(s "readinto" 582), (s "BytesIO.readinto" 583), (s "/claim/cut.py" 584), (.int 171 0), (.int 2 0), (.int 2 0), (.int 0 0), (.int 3 0), (r 278), (.bool true), (.int 273 0), (r 279), n, (r 280), (r 281), (r 282), (.int 589 0), (.int 171 0), (s "/claim/cut.py" 590)]⟩, #[]⟩) ::
  (nat_lit 284, fn (md 11 22) "readinto" "BytesIO.readinto" n n n (s "io" 294) none (r 283)) ::
  (nat_lit 285, ⟨(.type "tuple"), none, .seq ⟨[]⟩ 0, #[]⟩) ::
  (nat_lit 287, ⟨(.type "tuple"), none, .seq ⟨[(s "self" 595), (s "buffer" 596)]⟩ 0, #[]⟩) ::
  (nat_lit 288, ⟨(.type "tuple"), none, .seq ⟨[]⟩ 0, #[]⟩) ::
  (nat_lit 290, ⟨(.type "code"), none, .fields ⟨[(s "readinto1" 592), (s "BytesIO.readinto1" 593), (s "/claim/cut.py" 594), (.int 185 0), (.int 2 0), (.int 2 0), (.int 0 0), (.int 3 0), (r 285), (.bool true), (.int 273 0), (r 286), n, (r 287), (r 288), (r 289), (.int 597 0), (.int 185 0), (s "/claim/cut.py" 598)]⟩, #[]⟩) ::
  (nat_lit 291, fn (md 11 23) "readinto1" "BytesIO.readinto1" n n n (s "io" 294) none (r 290)) ::
  (nat_lit 292, ⟨(.type "tuple"), none, .seq ⟨[(.int (-1) 601)]⟩ 0, #[]⟩) ::
  (nat_lit 293, ⟨(.type "tuple"), none, .seq ⟨[]⟩ 0, #[]⟩) ::
  (nat_lit 295, ⟨(.type "tuple"), none, .seq ⟨[(s "self" 605), (s "size" 606)]⟩ 0, #[]⟩) ::
  (nat_lit 296, ⟨(.type "tuple"), none, .seq ⟨[]⟩ 0, #[]⟩) ::
  (nat_lit 298, ⟨(.type "code"), none, .fields ⟨[(s "readline" 602), (s "BytesIO.readline" 603), (s "/claim/cut.py" 604), (.int 188 0), (.int 2 0), (.int 2 0), (.int 0 0), (.int 3 0), (r 293), (.bool true), (.int 273 0), (r 294), n, (r 295), (r 296), (r 297), (.int 607 0), (.int 188 0), (s "/claim/cut.py" 608)]⟩, #[]⟩) ::
  (nat_lit 299, fn (md 11 24) "readline" "BytesIO.readline" (r 292) n n (s "io" 294) none (r 298)) ::
  (nat_lit 300, ⟨(.type "tuple"), none, .seq ⟨[n]⟩ 0, #[]⟩) ::
  (nat_lit 301, ⟨(.type "tuple"), none, .seq ⟨[]⟩ 0, #[]⟩) ::
  (nat_lit 303, ⟨(.type "tuple"), none, .seq ⟨[(s "self" 613), (s "size" 614)]⟩ 0, #[]⟩) ::
  (nat_lit 304, ⟨(.type "tuple"), none, .seq ⟨[]⟩ 0, #[]⟩) ::
  (nat_lit 306, ⟨(.type "code"), none, .fields ⟨[(s "readlines" 610), (s "BytesIO.readlines" 611), (s "/claim/cut.py" 612), (.int 195 0), (.int 2 0), (.int 2 0), (.int 0 0), (.int 3 0), (r 301), (.bool true), (.int 273 0), (r 302), n, (r 303), (r 304), (r 305), (.int 615 0), (.int 195 0), (s "/claim/cut.py" 616)]⟩, #[]⟩) ::
  (nat_lit 307, fn (md 11 25) "readlines" "BytesIO.readlines" (r 300) n n (s "io" 294) none (r 306)) ::
  (nat_lit 308, ⟨(.type "tuple"), none, .seq ⟨[]⟩ 0, #[]⟩) ::
  (nat_lit 310, ⟨(.type "tuple"), none, .seq ⟨[(s "self" 621)]⟩ 0, #[]⟩) ::
  (nat_lit 311, ⟨(.type "tuple"), none, .seq ⟨[]⟩ 0, #[]⟩) ::
  (nat_lit 313, ⟨(.type "code"), none, .fields ⟨[(s "__iter__" 618), (s "BytesIO.__iter__" 619), (s "/claim/cut.py" 620), (.int 198 0), (.int 1 0), (.int 0 0), (.int 0 0), (.int 3 0), (r 308), (.bool true), (.int 273 0), (r 309), n, (r 310), (r 311), (r 312), (.int 622 0), (.int 198 0), (s "/claim/cut.py" 623)]⟩, #[]⟩) ::
  (nat_lit 314, fn (md 11 26) "__iter__" "BytesIO.__iter__" n n n (s "io" 294) none (r 313)) ::
  (nat_lit 315, ⟨(.type "tuple"), none, .seq ⟨[]⟩ 0, #[]⟩) ::
  (nat_lit 317, ⟨(.type "tuple"), none, .seq ⟨[(s "self" 628), (s "line" 629)]⟩ 0, #[]⟩) ::
  (nat_lit 318, ⟨(.type "tuple"), none, .seq ⟨[]⟩ 0, #[]⟩) ::
  (nat_lit 320, ⟨(.type "code"), none, .fields ⟨[(s "__next__" 625), (s "BytesIO.__next__" 626), (s "/claim/cut.py" 627), (.int 201 0), (.int 1 0), (.int 0 0), (.int 0 0), (.int 3 0), (r 315), (.bool true), (.int 273 0), (r 316), n, (r 317), (r 318), (r 319), (.int 630 0), (.int 201 0), (s "/claim/cut.py" 631)]⟩, #[]⟩) ::
  (nat_lit 321, fn (md 11 27) "__next__" "BytesIO.__next__" n n n (s "io" 294) none (r 320)) ::
  (nat_lit 322, ⟨(.type "tuple"), none, .seq ⟨[]⟩ 0, #[]⟩) ::
  (nat_lit 324, ⟨(.type "tuple"), none, .seq ⟨[(s "self" 636), (s "b" 637), (s "n" 638), (s "start" 639)]⟩ 0, #[]⟩) ::
  (nat_lit 325, ⟨(.type "tuple"), none, .seq ⟨[]⟩ 0, #[]⟩) ::
  (nat_lit 327, ⟨(.type "code"), none, .fields ⟨[(s "write" 633), (s "BytesIO.write" 634), (s "/claim/cut.py" 635), (.int 208 0), (.int 2 0), (.int 2 0), (.int 0 0), (.int 3 0), (r 322), (.bool true), (.int 273 0), (r 323), n, (r 324), (r 325), (r 326), (.int 640 0), (.int 208 0), (s "/claim/cut.py" 641)]⟩, #[]⟩) ::
  (nat_lit 328, fn (md 11 28) "write" "BytesIO.write" n n n (s "io" 294) none (r 327)) ::
  (nat_lit 329, ⟨(.type "tuple"), none, .seq ⟨[]⟩ 0, #[]⟩) ::
  (nat_lit 331, ⟨(.type "tuple"), none, .seq ⟨[(s "self" 646), (s "lines" 647)]⟩ 0, #[]⟩) ::
  (nat_lit 332, ⟨(.type "tuple"), none, .seq ⟨[]⟩ 0, #[]⟩) ::
  (nat_lit 334, ⟨(.type "code"), none, .fields ⟨[(s "writelines" 643), (s "BytesIO.writelines" 644), (s "/claim/cut.py" 645), (.int 224 0), (.int 2 0), (.int 2 0), (.int 0 0), (.int 3 0), (r 329), (.bool true), (.int 273 0), (r 330), n, (r 331), (r 332), (r 333), (.int 648 0), (.int 224 0), (s "/claim/cut.py" 649)]⟩, #[]⟩) ::
  (nat_lit 335, fn (md 11 29) "writelines" "BytesIO.writelines" n n n (s "io" 294) none (r 334)) ::
  (nat_lit 336, ⟨(.type "tuple"), none, .seq ⟨[]⟩ 0, #[]⟩) ::
  (nat_lit 338, ⟨(.type "tuple"), none, .seq ⟨[(s "self" 654)]⟩ 0, #[]⟩) ::
  (nat_lit 339, ⟨(.type "tuple"), none, .seq ⟨[]⟩ 0, #[]⟩) ::
  (nat_lit 341, ⟨(.type "code"), none, .fields ⟨[(s "__repr__" 651), (s "BytesIO.__repr__" 652), (s "/claim/cut.py" 653), (.int 227 0), (.int 1 0), (.int 0 0), (.int 0 0), (.int 3 0), (r 336), (.bool true), (.int 273 0), (r 337), n, (r 338), (r 339), (r 340), (.int 655 0), (.int 227 0), (s "/claim/cut.py" 656)]⟩, #[]⟩) ::
  (nat_lit 342, fn (md 11 30) "__repr__" "BytesIO.__repr__" n n n (s "io" 294) none (r 341)) ::
  (nat_lit 343, ⟨(.type "tuple"), none, .seq ⟨[(s "__buf" 658), (s "__pos" 659)]⟩ 0, #[]⟩) ::
  (nat_lit 344, ⟨(.type "dict"), none, .dict ⟨[e P "__module__" 409 (s "_io" 414), e P "__firstlineno__" 413 (.int 59 412), e P "__init__" 423 (r 132), e P "_BytesIO__check" 430 (r 139), e P "_BytesIO__line" 441 (r 146), e P "closed" 449 (r 154), e P "close" 456 (r 161), e P "__enter__" 463 (r 168), e P "__exit__" 471 (r 175), e P "readable" 478 (r 182), e P "writable" 485 (r 189), e P "seekable" 492 (r 196), e P "isatty" 499 (r 203), e P "flush" 506 (r 210), e P "fileno" 513 (r 217), e P "detach" 520 (r 224), e P "getvalue" 527 (r 231), e P "getbuffer" 534 (r 238), e P "tell" 541 (r 245), e P "seek" 551 (r 253), e P "truncate" 559 (r 261), e P "read" 571 (r 269), e P "read1" 581 (r 277), e P "readinto" 591 (r 284), e P "readinto1" 599 (r 291), e P "readline" 609 (r 299), e P "readlines" 617 (r 307), e P "__iter__" 624 (r 314), e P "__next__" 632 (r 321), e P "write" 642 (r 328), e P "writelines" 650 (r 335), e P "__repr__" 657 (r 342), e P "__static_attributes__" 660 (r 343), e P "__doc__" 661 n]⟩ 2, #[]⟩) ::
  (nat_lit 345, ⟨(.type "type"), none, .cls { name := Str.ofString "BytesIO", bases := [(r 103)], mro := [(r 345), (r 103), (r 88), (.type "object")], ns := 344, qualname := Str.ofString "BytesIO", subclasses := [] }, #[some (r 118), none, some (s "BytesIO" 402), some (s "BytesIO" 410), some n, some (.bool true)]⟩) ::
  (nat_lit 348, ⟨(.type "tuple"), none, .seq ⟨[(r 115)]⟩ 0, #[]⟩) ::
  (nat_lit 355, ⟨(.type "tuple"), none, .seq ⟨[(s "" 678), (s "\n" 679)]⟩ 0, #[]⟩) ::
  (nat_lit 356, ⟨(.type "tuple"), none, .seq ⟨[]⟩ 0, #[]⟩) ::
  (nat_lit 358, ⟨(.type "tuple"), none, .seq ⟨[(s "self" 683), (s "initial_value" 684), (s "newline" 685)]⟩ 0, #[]⟩) ::
  (nat_lit 359, ⟨(.type "tuple"), none, .seq ⟨[]⟩ 0, #[]⟩) ::
  (nat_lit 361, ⟨(.type "code"), none, .fields ⟨[(s "__init__" 680), (s "StringIO.__init__" 681), (s "/claim/cut.py" 682), (.int 232 0), (.int 3 0), (.int 0 0), (.int 0 0), (.int 3 0), (r 356), (.bool true), (.int 273 0), (r 357), n, (r 358), (r 359), (r 360), (.int 686 0), (.int 232 0), (s "/claim/cut.py" 687)]⟩, #[]⟩) ::
  (nat_lit 362, fn (md 12 1) "__init__" "StringIO.__init__" (r 355) n n (s "io" 294) none (r 361)) ::
  (nat_lit 363, ⟨(.type "tuple"), none, .seq ⟨[]⟩ 0, #[]⟩) ::
  (nat_lit 365, ⟨(.type "tuple"), none, .seq ⟨[(s "self" 692), (s "s" 693), (s "newline" 694)]⟩ 0, #[]⟩) ::
  (nat_lit 366, ⟨(.type "tuple"), none, .seq ⟨[]⟩ 0, #[]⟩) ::
  (nat_lit 368, ⟨(.type "code"), none, .fields ⟨[(s "__translated" 689), (s "StringIO.__translated" 690), (s "/claim/cut.py" 691), (.int 245 0), (.int 2 0), (.int 0 0), (.int 0 0), (.int 3 0), (r 363), (.bool true), (.int 273 0), (r 364), n, (r 365), (r 366), (r 367), (.int 695 0), (.int 245 0), (s "/claim/cut.py" 696)]⟩, #[]⟩) ::
  (nat_lit 369, fn (md 12 2) "__translated" "StringIO.__translated" n n n (s "io" 294) none (r 368)) ::
  (nat_lit 370, ⟨(.type "tuple"), none, .seq ⟨[]⟩ 0, #[]⟩) ::
  (nat_lit 372, ⟨(.type "tuple"), none, .seq ⟨[(s "self" 701)]⟩ 0, #[]⟩) ::
  (nat_lit 373, ⟨(.type "tuple"), none, .seq ⟨[]⟩ 0, #[]⟩) ::
  (nat_lit 375, ⟨(.type "code"), none, .fields ⟨[(s "__check" 698), (s "StringIO.__check" 699), (s "/claim/cut.py" 700), (.int 253 0), (.int 1 0), (.int 0 0), (.int 0 0), (.int 3 0), (r 370), (.bool true), (.int 273 0), (r 371), n, (r 372), (r 373), (r 374), (.int 702 0), (.int 253 0), (s "/claim/cut.py" 703)]⟩, #[]⟩) ::
  (nat_lit 376, fn (md 12 3) "__check" "StringIO.__check" n n n (s "io" 294) none (r 375)) ::
  (nat_lit 377, ⟨(.type "tuple"), none, .seq ⟨[]⟩ 0, #[]⟩) ::
  (nat_lit 379, ⟨(.type "tuple"), none, .seq ⟨[(s "self" 708)]⟩ 0, #[]⟩) ::
  (nat_lit 380, ⟨(.type "tuple"), none, .seq ⟨[]⟩ 0, #[]⟩) ::
  (nat_lit 382, ⟨(.type "code"), none, .fields ⟨[(s "__check_dot" 705), (s "StringIO.__check_dot" 706), (s "/claim/cut.py" 707), (.int 257 0), (.int 1 0), (.int 0 0), (.int 0 0), (.int 3 0), (r 377), (.bool true), (.int 273 0), (r 378), n, (r 379), (r 380), (r 381), (.int 709 0), (.int 257 0), (s "/claim/cut.py" 710)]⟩, #[]⟩) ::
  (nat_lit 383, fn (md 12 4) "__check_dot" "StringIO.__check_dot" n n n (s "io" 294) none (r 382)) ::
  (nat_lit 384, ⟨(.type "tuple"), none, .seq ⟨[]⟩ 0, #[]⟩) ::
  (nat_lit 386, ⟨(.type "tuple"), none, .seq ⟨[(s "self" 715), (s "limit" 716), (s "start" 717), (s "stop" 718), (s "cut" 719), (s "newline" 720), (s "i" 721), (s "j" 722), (s "end" 723)]⟩ 0, #[]⟩) ::
  (nat_lit 387, ⟨(.type "tuple"), none, .seq ⟨[]⟩ 0, #[]⟩) ::
  (nat_lit 389, ⟨(.type "code"), none, .fields ⟨[(s "__line" 712), (s "StringIO.__line" 713), (s "/claim/cut.py" 714), (.int 261 0), (.int 2 0), (.int 0 0), (.int 0 0), (.int 3 0), (r 384), (.bool true), (.int 273 0), (r 385), n, (r 386), (r 387), (r 388), (.int 724 0), (.int 261 0), (s "/claim/cut.py" 725)]⟩, #[]⟩) ::
  (nat_lit 390, fn (md 12 5) "__line" "StringIO.__line" n n n (s "io" 294) none (r 389)) ::
  (nat_lit 391, ⟨(.type "tuple"), none, .seq ⟨[]⟩ 0, #[]⟩) ::
  (nat_lit 393, ⟨(.type "tuple"), none, .seq ⟨[(s "self" 730)]⟩ 0, #[]⟩) ::
  (nat_lit 394, ⟨(.type "tuple"), none, .seq ⟨[]⟩ 0, #[]⟩) ::
  (nat_lit 396, ⟨(.type "code"), none, .fields ⟨[(s "closed" 727), (s "StringIO.closed" 728), (s "/claim/cut.py" 729), (.int 293 0), (.int 1 0), (.int 0 0), (.int 0 0), (.int 3 0), (r 391), (.bool true), (.int 273 0), (r 392), n, (r 393), (r 394), (r 395), (.int 731 0), (.int 293 0), (s "/claim/cut.py" 732)]⟩, #[]⟩) ::
  (nat_lit 397, fn (md 12 6) "closed" "StringIO.closed" n n n (s "io" 294) none (r 396)) ::
  (nat_lit 398, ⟨(.type "property"), none, .fields ⟨[(r 397), n, n, n, (s "closed" 734), (.bool false)]⟩, #[]⟩) ::
  (nat_lit 399, ⟨(.type "tuple"), none, .seq ⟨[]⟩ 0, #[]⟩) ::
  (nat_lit 401, ⟨(.type "tuple"), none, .seq ⟨[(s "self" 738)]⟩ 0, #[]⟩) ::
  (nat_lit 402, ⟨(.type "tuple"), none, .seq ⟨[]⟩ 0, #[]⟩) ::
  (nat_lit 404, ⟨(.type "code"), none, .fields ⟨[(s "line_buffering" 735), (s "StringIO.line_buffering" 736), (s "/claim/cut.py" 737), (.int 297 0), (.int 1 0), (.int 0 0), (.int 0 0), (.int 3 0), (r 399), (.bool true), (.int 273 0), (r 400), n, (r 401), (r 402), (r 403), (.int 739 0), (.int 297 0), (s "/claim/cut.py" 740)]⟩, #[]⟩) ::
  (nat_lit 405, fn (md 12 7) "line_buffering" "StringIO.line_buffering" n n n (s "io" 294) none (r 404)) ::
  (nat_lit 406, ⟨(.type "property"), none, .fields ⟨[(r 405), n, n, n, (s "line_buffering" 742), (.bool false)]⟩, #[]⟩) ::
  (nat_lit 407, ⟨(.type "tuple"), none, .seq ⟨[]⟩ 0, #[]⟩) ::
  (nat_lit 409, ⟨(.type "tuple"), none, .seq ⟨[(s "self" 746)]⟩ 0, #[]⟩) ::
  (nat_lit 410, ⟨(.type "tuple"), none, .seq ⟨[]⟩ 0, #[]⟩) ::
  (nat_lit 412, ⟨(.type "code"), none, .fields ⟨[(s "newlines" 743), (s "StringIO.newlines" 744), (s "/claim/cut.py" 745), (.int 301 0), (.int 1 0), (.int 0 0), (.int 0 0), (.int 3 0), (r 407), (.bool true), (.int 273 0), (r 408), n, (r 409), (r 410), (r 411), (.int 747 0), (.int 301 0), (s "/claim/cut.py" 748)]⟩, #[]⟩) ::
  (nat_lit 413, fn (md 12 8) "newlines" "StringIO.newlines" n n n (s "io" 294) none (r 412)) ::
  (nat_lit 414, ⟨(.type "property"), none, .fields ⟨[(r 413), n, n, n, (s "newlines" 750), (.bool false)]⟩, #[]⟩) ::
  (nat_lit 415, ⟨(.type "tuple"), none, .seq ⟨[]⟩ 0, #[]⟩) ::
  (nat_lit 417, ⟨(.type "tuple"), none, .seq ⟨[(s "self" 754)]⟩ 0, #[]⟩) ::
  (nat_lit 418, ⟨(.type "tuple"), none, .seq ⟨[]⟩ 0, #[]⟩) ::
  (nat_lit 420, ⟨(.type "code"), none, .fields ⟨[(s "encoding" 751), (s "StringIO.encoding" 752), (s "/claim/cut.py" 753), (.int 305 0), (.int 1 0), (.int 0 0), (.int 0 0), (.int 3 0), (r 415), (.bool true), (.int 273 0), (r 416), n, (r 417), (r 418), (r 419), (.int 755 0), (.int 305 0), (s "/claim/cut.py" 756)]⟩, #[]⟩) ::
  (nat_lit 421, fn (md 12 9) "encoding" "StringIO.encoding" n n n (s "io" 294) none (r 420)) ::
  (nat_lit 422, ⟨(.type "property"), none, .fields ⟨[(r 421), n, n, n, (s "encoding" 758), (.bool false)]⟩, #[]⟩) ::
  (nat_lit 423, ⟨(.type "tuple"), none, .seq ⟨[]⟩ 0, #[]⟩) ::
  (nat_lit 425, ⟨(.type "tuple"), none, .seq ⟨[(s "self" 762)]⟩ 0, #[]⟩) ::
  (nat_lit 426, ⟨(.type "tuple"), none, .seq ⟨[]⟩ 0, #[]⟩) ::
  (nat_lit 428, ⟨(.type "code"), none, .fields ⟨[(s "errors" 759), (s "StringIO.errors" 760), (s "/claim/cut.py" 761), (.int 309 0), (.int 1 0), (.int 0 0), (.int 0 0), (.int 3 0), (r 423), (.bool true), (.int 273 0), (r 424), n, (r 425), (r 426), (r 427), (.int 763 0), (.int 309 0), (s "/claim/cut.py" 764)]⟩, #[]⟩) ::
  (nat_lit 429, fn (md 12 10) "errors" "StringIO.errors" n n n (s "io" 294) none (r 428)) ::
  (nat_lit 430, ⟨(.type "property"), none, .fields ⟨[(r 429), n, n, n, (s "errors" 766), (.bool false)]⟩, #[]⟩) ::
  (nat_lit 431, ⟨(.type "tuple"), none, .seq ⟨[]⟩ 0, #[]⟩) ::
  (nat_lit 433, ⟨(.type "tuple"), none, .seq ⟨[(s "self" 770)]⟩ 0, #[]⟩) ::
  (nat_lit 434, ⟨(.type "tuple"), none, .seq ⟨[]⟩ 0, #[]⟩) ::
  (nat_lit 436, ⟨(.type "code"), none, .fields ⟨[(s "close" 767), (s "StringIO.close" 768), (s "/claim/cut.py" 769), (.int 313 0), (.int 1 0), (.int 0 0), (.int 0 0), (.int 3 0), (r 431), (.bool true), (.int 273 0), (r 432), n, (r 433), (r 434), (r 435), (.int 771 0), (.int 313 0), (s "/claim/cut.py" 772)]⟩, #[]⟩) ::
  (nat_lit 437, fn (md 12 11) "close" "StringIO.close" n n n (s "io" 294) none (r 436)) ::
  (nat_lit 438, ⟨(.type "tuple"), none, .seq ⟨[]⟩ 0, #[]⟩) ::
  (nat_lit 440, ⟨(.type "tuple"), none, .seq ⟨[(s "self" 777)]⟩ 0, #[]⟩) ::
  (nat_lit 441, ⟨(.type "tuple"), none, .seq ⟨[]⟩ 0, #[]⟩) ::
  (nat_lit 443, ⟨(.type "code"), none, .fields ⟨[(s "__enter__" 774), (s "StringIO.__enter__" 775), (s "/claim/cut.py" 776), (.int 316 0), (.int 1 0), (.int 0 0), (.int 0 0), (.int 3 0), (r 438), (.bool true), (.int 273 0), (r 439), n, (r 440), (r 441), (r 442), (.int 778 0), (.int 316 0), (s "/claim/cut.py" 779)]⟩, #[]⟩) ::
  (nat_lit 444, fn (md 12 12) "__enter__" "StringIO.__enter__" n n n (s "io" 294) none (r 443)) ::
  (nat_lit 445, ⟨(.type "tuple"), none, .seq ⟨[]⟩ 0, #[]⟩) ::
  (nat_lit 447, ⟨(.type "tuple"), none, .seq ⟨[(s "self" 784), (s "args" 785)]⟩ 0, #[]⟩) ::
  (nat_lit 448, ⟨(.type "tuple"), none, .seq ⟨[]⟩ 0, #[]⟩) ::
  (nat_lit 450, ⟨(.type "code"), none, .fields ⟨[(s "__exit__" 781), (s "StringIO.__exit__" 782), (s "/claim/cut.py" 783), (.int 320 0), (.int 1 0), (.int 0 0), (.int 0 0), (.int 7 0), (r 445), (.bool true), (.int 273 0), (r 446), n, (r 447), (r 448), (r 449), (.int 786 0), (.int 320 0), (s "/claim/cut.py" 787)]⟩, #[]⟩) ::
  (nat_lit 451, fn (md 12 13) "__exit__" "StringIO.__exit__" n n n (s "io" 294) none (r 450)) ::
  (nat_lit 452, ⟨(.type "tuple"), none, .seq ⟨[]⟩ 0, #[]⟩) ::
  (nat_lit 454, ⟨(.type "tuple"), none, .seq ⟨[(s "self" 792)]⟩ 0, #[]⟩) ::
  (nat_lit 455, ⟨(.type "tuple"), none, .seq ⟨[]⟩ 0, #[]⟩) ::
  (nat_lit 457, ⟨(.type "code"), none, .fields ⟨[(s "readable" 789), (s "StringIO.readable" 790), (s "/claim/cut.py" 791), (.int 323 0), (.int 1 0), (.int 0 0), (.int 0 0), (.int 3 0), (r 452), (.bool true), (.int 273 0), (r 453), n, (r 454), (r 455), (r 456), (.int 793 0), (.int 323 0), (s "/claim/cut.py" 794)]⟩, #[]⟩) ::
  (nat_lit 458, fn (md 12 14) "readable" "StringIO.readable" n n n (s "io" 294) none (r 457)) ::
  (nat_lit 459, ⟨(.type "tuple"), none, .seq ⟨[]⟩ 0, #[]⟩) ::
  (nat_lit 461, ⟨(.type "tuple"), none, .seq ⟨[(s "self" 799)]⟩ 0, #[]⟩) ::
  (nat_lit 462, ⟨(.type "tuple"), none, .seq ⟨[]⟩ 0, #[]⟩) ::
  (nat_lit 464, ⟨(.type "code"), none, .fields ⟨[(s "writable" 796), (s "StringIO.writable" 797), (s "/claim/cut.py" 798), (.int 327 0), (.int 1 0), (.int 0 0), (.int 0 0), (.int 3 0), (r 459), (.bool true), (.int 273 0), (r 460), n, (r 461), (r 462), (r 463), (.int 800 0), (.int 327 0), (s "/claim/cut.py" 801)]⟩, #[]⟩) ::
  (nat_lit 465, fn (md 12 15) "writable" "StringIO.writable" n n n (s "io" 294) none (r 464)) ::
  (nat_lit 466, ⟨(.type "tuple"), none, .seq ⟨[]⟩ 0, #[]⟩) ::
  (nat_lit 468, ⟨(.type "tuple"), none, .seq ⟨[(s "self" 806)]⟩ 0, #[]⟩) ::
  (nat_lit 469, ⟨(.type "tuple"), none, .seq ⟨[]⟩ 0, #[]⟩) ::
  (nat_lit 471, ⟨(.type "code"), none, .fields ⟨[(s "seekable" 803), (s "StringIO.seekable" 804), (s "/claim/cut.py" 805), (.int 331 0), (.int 1 0), (.int 0 0), (.int 0 0), (.int 3 0), (r 466), (.bool true), (.int 273 0), (r 467), n, (r 468), (r 469), (r 470), (.int 807 0), (.int 331 0), (s "/claim/cut.py" 808)]⟩, #[]⟩) ::
  (nat_lit 472, fn (md 12 16) "seekable" "StringIO.seekable" n n n (s "io" 294) none (r 471)) ::
  (nat_lit 473, ⟨(.type "tuple"), none, .seq ⟨[]⟩ 0, #[]⟩) ::
  (nat_lit 475, ⟨(.type "tuple"), none, .seq ⟨[(s "self" 813)]⟩ 0, #[]⟩) ::
  (nat_lit 476, ⟨(.type "tuple"), none, .seq ⟨[]⟩ 0, #[]⟩) ::
  (nat_lit 478, ⟨(.type "code"), none, .fields ⟨[(s "isatty" 810), (s "StringIO.isatty" 811), (s "/claim/cut.py" 812), (.int 335 0), (.int 1 0), (.int 0 0), (.int 0 0), (.int 3 0), (r 473), (.bool true), (.int 273 0), (r 474), n, (r 475), (r 476), (r 477), (.int 814 0), (.int 335 0), (s "/claim/cut.py" 815)]⟩, #[]⟩) ::
  (nat_lit 479, fn (md 12 17) "isatty" "StringIO.isatty" n n n (s "io" 294) none (r 478)) ::
  (nat_lit 480, ⟨(.type "tuple"), none, .seq ⟨[]⟩ 0, #[]⟩) ::
  (nat_lit 482, ⟨(.type "tuple"), none, .seq ⟨[(s "self" 820)]⟩ 0, #[]⟩) ::
  (nat_lit 483, ⟨(.type "tuple"), none, .seq ⟨[]⟩ 0, #[]⟩) ::
  (nat_lit 485, ⟨(.type "code"), none, .fields ⟨[(s "flush" 817), (s "StringIO.flush" 818), (s "/claim/cut.py" 819), (.int 339 0), (.int 1 0), (.int 0 0), (.int 0 0), (.int 3 0), (r 480), (.bool true), (.int 273 0), (r 481), n, (r 482), (r 483), (r 484), (.int 821 0), (.int 339 0), (s "/claim/cut.py" 822)]⟩, #[]⟩) ::
  (nat_lit 486, fn (md 12 18) "flush" "StringIO.flush" n n n (s "io" 294) none (r 485)) ::
  (nat_lit 487, ⟨(.type "tuple"), none, .seq ⟨[]⟩ 0, #[]⟩) ::
  (nat_lit 489, ⟨(.type "tuple"), none, .seq ⟨[(s "self" 827)]⟩ 0, #[]⟩) ::
  (nat_lit 490, ⟨(.type "tuple"), none, .seq ⟨[]⟩ 0, #[]⟩) ::
  (nat_lit 492, ⟨(.type "code"), none, .fields ⟨[(s "fileno" 824), (s "StringIO.fileno" 825), (s "/claim/cut.py" 826), (.int 342 0), (.int 1 0), (.int 0 0), (.int 0 0), (.int 3 0), (r 487), (.bool true), (.int 273 0), (r 488), n, (r 489), (r 490), (r 491), (.int 828 0), (.int 342 0), (s "/claim/cut.py" 829)]⟩, #[]⟩) ::
  (nat_lit 493, fn (md 12 19) "fileno" "StringIO.fileno" n n n (s "io" 294) none (r 492)) ::
  (nat_lit 494, ⟨(.type "tuple"), none, .seq ⟨[]⟩ 0, #[]⟩) ::
  (nat_lit 496, ⟨(.type "tuple"), none, .seq ⟨[(s "self" 834)]⟩ 0, #[]⟩) ::
  (nat_lit 497, ⟨(.type "tuple"), none, .seq ⟨[]⟩ 0, #[]⟩) ::
  (nat_lit 499, ⟨(.type "code"), none, .fields ⟨[(s "detach" 831), (s "StringIO.detach" 832), (s "/claim/cut.py" 833), (.int 345 0), (.int 1 0), (.int 0 0), (.int 0 0), (.int 3 0), (r 494), (.bool true), (.int 273 0), (r 495), n, (r 496), (r 497), (r 498), (.int 835 0), (.int 345 0), (s "/claim/cut.py" 836)]⟩, #[]⟩) ::
  (nat_lit 500, fn (md 12 20) "detach" "StringIO.detach" n n n (s "io" 294) none (r 499)) ::
  (nat_lit 501, ⟨(.type "tuple"), none, .seq ⟨[]⟩ 0, #[]⟩) ::
  (nat_lit 503, ⟨(.type "tuple"), none, .seq ⟨[(s "self" 841)]⟩ 0, #[]⟩) ::
  (nat_lit 504, ⟨(.type "tuple"), none, .seq ⟨[]⟩ 0, #[]⟩) ::
  (nat_lit 506, ⟨(.type "code"), none, .fields ⟨[(s "getvalue" 838), (s "StringIO.getvalue" 839), (s "/claim/cut.py" 840), (.int 348 0), (.int 1 0), (.int 0 0), (.int 0 0), (.int 3 0), (r 501), (.bool true), (.int 273 0), (r 502), n, (r 503), (r 504), (r 505), (.int 842 0), (.int 348 0), (s "/claim/cut.py" 843)]⟩, #[]⟩) ::
  (nat_lit 507, fn (md 12 21) "getvalue" "StringIO.getvalue" n n n (s "io" 294) none (r 506)) ::
  (nat_lit 508, ⟨(.type "tuple"), none, .seq ⟨[]⟩ 0, #[]⟩) ::
  (nat_lit 510, ⟨(.type "tuple"), none, .seq ⟨[(s "self" 848)]⟩ 0, #[]⟩) ::
  (nat_lit 511, ⟨(.type "tuple"), none, .seq ⟨[]⟩ 0, #[]⟩) ::
  (nat_lit 513, ⟨(.type "code"), none, .fields ⟨[(s "tell" 845), (s "StringIO.tell" 846), (s "/claim/cut.py" 847), (.int 351 0), (.int 1 0), (.int 0 0), (.int 0 0), (.int 3 0), (r 508), (.bool true), (.int 273 0), (r 509), n, (r 510), (r 511), (r 512), (.int 849 0), (.int 351 0), (s "/claim/cut.py" 850)]⟩, #[]⟩) ::
  (nat_lit 514, fn (md 12 22) "tell" "StringIO.tell" n n n (s "io" 294) none (r 513)) ::
  (nat_lit 515, ⟨(.type "tuple"), none, .seq ⟨[(.int 0 852)]⟩ 0, #[]⟩) ::
  (nat_lit 516, ⟨(.type "tuple"), none, .seq ⟨[]⟩ 0, #[]⟩) ::
  (nat_lit 518, ⟨(.type "tuple"), none, .seq ⟨[(s "self" 856), (s "pos" 857), (s "whence" 858)]⟩ 0, #[]⟩) ::
  (nat_lit 519, ⟨(.type "tuple"), none, .seq ⟨[]⟩ 0, #[]⟩) ::
  (nat_lit 521, ⟨(.type "code"), none, .fields ⟨[(s "seek" 853), (s "StringIO.seek" 854), (s "/claim/cut.py" 855), (.int 355 0), (.int 3 0), (.int 3 0), (.int 0 0), (.int 3 0), (r 516), (.bool true), (.int 273 0), (r 517), n, (r 518), (r 519), (r 520), (.int 859 0), (.int 355 0), (s "/claim/cut.py" 860)]⟩, #[]⟩) ::
  (nat_lit 522, fn (md 12 23) "seek" "StringIO.seek" (r 515) n n (s "io" 294) none (r 521)) ::
  (nat_lit 523, ⟨(.type "tuple"), none, .seq ⟨[n]⟩ 0, #[]⟩) ::
  (nat_lit 524, ⟨(.type "tuple"), none, .seq ⟨[]⟩ 0, #[]⟩) ::
  (nat_lit 526, ⟨(.type "tuple"), none, .seq ⟨[(s "self" 865), (s "pos" 866)]⟩ 0, #[]⟩) ::
  (nat_lit 527, ⟨(.type "tuple"), none, .seq ⟨[]⟩ 0, #[]⟩) ::
  (nat_lit 529, ⟨(.type "code"), none, .fields ⟨[(s "truncate" 862), (s "StringIO.truncate" 863), (s "/claim/cut.py" 864), (.int 372 0), (.int 2 0), (.int 2 0), (.int 0 0), (.int 3 0), (r 524), (.bool true), (.int 273 0), (r 525), n, (r 526), (r 527), (r 528), (.int 867 0), (.int 372 0), (s "/claim/cut.py" 868)]⟩, #[]⟩) ::
  (nat_lit 530, fn (md 12 24) "truncate" "StringIO.truncate" (r 523) n n (s "io" 294) none (r 529)) ::
  (nat_lit 531, ⟨(.type "tuple"), none, .seq ⟨[(.int (-1) 871)]⟩ 0, #[]⟩) ::
  (nat_lit 532, ⟨(.type "tuple"), none, .seq ⟨[]⟩ 0, #[]⟩) ::
  (nat_lit 534, ⟨(.type "tuple"), none, .seq ⟨[(s "self" 875), (s "size" 876), (s "start" 877), (s "stop" 878)]⟩ 0, #[]⟩) ::
  (nat_lit 535, ⟨(.type "tuple"), none, .seq ⟨[]⟩ 0, #[]⟩) ::
  (nat_lit 537, ⟨(.type "code"), none, .fields ⟨[(s "read" 872), (s "StringIO.read" 873), (s "/claim/cut.py" 874), (.int 375 0), (.int 2 0), (.int 2 0), (.int 0 0), (.int 3 0), (r 532), (.bool true), (.int 273 0), (r 533), n, (r 534), (r 535), (r 536), (.int 879 0), (.int 375 0), (s "/claim/cut.py" 880)]⟩, #[]⟩) ::
  (nat_lit 538, fn (md 12 25) "read" "StringIO.read" (r 531) n n (s "io" 294) none (r 537)) ::
  (nat_lit 539, ⟨(.type "tuple"), none, .seq ⟨[(.int (-1) 883)]⟩ 0, #[]⟩) ::
  (nat_lit 540, ⟨(.type "tuple"), none, .seq ⟨[]⟩ 0, #[]⟩) ::
  (nat_lit 542, ⟨(.type "tuple"), none, .seq ⟨[(s "self" 887), (s "size" 888)]⟩ 0, #[]⟩) ::
  (nat_lit 543, ⟨(.type "tuple"), none, .seq ⟨[]⟩ 0, #[]⟩) ::
  (nat_lit 545, ⟨(.type "code"), none, .fields ⟨[(s "readline" 884), (s "StringIO.readline" 885), (s "/claim/cut.py" 886), (.int 389 0), (.int 2 0), (.int 2 0), (.int 0 0), (.int 3 0), (r 540), (.bool true), (.int 273 0), (r 541), n, (r 542), (r 543), (r 544), (.int 889 0), (.int 389 0), (s "/claim/cut.py" 890)]⟩, #[]⟩) ::
  (nat_lit 546, fn (md 12 26) "readline" "StringIO.readline" (r 539) n n (s "io" 294) none (r 545)) ::
  (nat_lit 547, ⟨(.type "tuple"), none, .seq ⟨[(.int (-1) 893)]⟩ 0, #[]⟩) ::
  (nat_lit 548, ⟨(.type "tuple"), none, .seq ⟨[]⟩ 0, #[]⟩) ::
  (nat_lit 550, ⟨(.type "tuple"), none, .seq ⟨[(s "self" 897), (s "hint" 898)]⟩ 0, #[]⟩) ::
  (nat_lit 551, ⟨(.type "tuple"), none, .seq ⟨[]⟩ 0, #[]⟩) ::
  (nat_lit 553, ⟨(.type "code"), none, .fields ⟨[(s "readlines" 894), (s "StringIO.readlines" 895), (s "/claim/cut.py" 896), (.int 396 0), (.int 2 0), (.int 2 0), (.int 0 0), (.int 3 0), (r 548), (.bool true), (.int 273 0), (r 549), n, (r 550), (r 551), (r 552), (.int 899 0), (.int 396 0), (s "/claim/cut.py" 900)]⟩, #[]⟩) ::
  (nat_lit 554, fn (md 12 27) "readlines" "StringIO.readlines" (r 547) n n (s "io" 294) none (r 553)) ::
  (nat_lit 555, ⟨(.type "tuple"), none, .seq ⟨[]⟩ 0, #[]⟩) ::
  (nat_lit 557, ⟨(.type "tuple"), none, .seq ⟨[(s "self" 905)]⟩ 0, #[]⟩) ::
  (nat_lit 558, ⟨(.type "tuple"), none, .seq ⟨[]⟩ 0, #[]⟩) ::
  (nat_lit 560, ⟨(.type "code"), none, .fields ⟨[(s "__iter__" 902), (s "StringIO.__iter__" 903), (s "/claim/cut.py" 904), (.int 399 0), (.int 1 0), (.int 0 0), (.int 0 0), (.int 3 0), (r 555), (.bool true), (.int 273 0), (r 556), n, (r 557), (r 558), (r 559), (.int 906 0), (.int 399 0), (s "/claim/cut.py" 907)]⟩, #[]⟩) ::
  (nat_lit 561, fn (md 12 28) "__iter__" "StringIO.__iter__" n n n (s "io" 294) none (r 560)) ::
  (nat_lit 562, ⟨(.type "tuple"), none, .seq ⟨[]⟩ 0, #[]⟩) ::
  (nat_lit 564, ⟨(.type "tuple"), none, .seq ⟨[(s "self" 912), (s "line" 913)]⟩ 0, #[]⟩) ::
  (nat_lit 565, ⟨(.type "tuple"), none, .seq ⟨[]⟩ 0, #[]⟩) ::
  (nat_lit 567, ⟨(.type "code"), none, .fields ⟨[(s "__next__" 909), (s "StringIO.__next__" 910), (s "/claim/cut.py" 911), (.int 403 0), (.int 1 0), (.int 0 0), (.int 0 0), (.int 3 0), (r 562), (.bool true), (.int 273 0), (r 563), n, (r 564), (r 565), (r 566), (.int 914 0), (.int 403 0), (s "/claim/cut.py" 915)]⟩, #[]⟩) ::
  (nat_lit 568, fn (md 12 29) "__next__" "StringIO.__next__" n n n (s "io" 294) none (r 567)) ::
  (nat_lit 569, ⟨(.type "tuple"), none, .seq ⟨[]⟩ 0, #[]⟩) ::
  (nat_lit 571, ⟨(.type "tuple"), none, .seq ⟨[(s "self" 920), (s "s" 921), (s "n" 922), (s "m" 923), (s "start" 924), (s "buf" 925)]⟩ 0, #[]⟩) ::
  (nat_lit 572, ⟨(.type "tuple"), none, .seq ⟨[]⟩ 0, #[]⟩) ::
  (nat_lit 574, ⟨(.type "code"), none, .fields ⟨[(s "write" 917), (s "StringIO.write" 918), (s "/claim/cut.py" 919), (.int 410 0), (.int 2 0), (.int 2 0), (.int 0 0), (.int 3 0), (r 569), (.bool true), (.int 273 0), (r 570), n, (r 571), (r 572), (r 573), (.int 926 0), (.int 410 0), (s "/claim/cut.py" 927)]⟩, #[]⟩) ::
  (nat_lit 575, fn (md 12 30) "write" "StringIO.write" n n n (s "io" 294) none (r 574)) ::
  (nat_lit 576, ⟨(.type "tuple"), none, .seq ⟨[]⟩ 0, #[]⟩) ::
  (nat_lit 578, ⟨(.type "tuple"), none, .seq ⟨[(s "self" 932), (s "lines" 933)]⟩ 0, #[]⟩) ::
  (nat_lit 579, ⟨(.type "tuple"), none, .seq ⟨[]⟩ 0, #[]⟩) ::
  (nat_lit 581, ⟨(.type "code"), none, .fields ⟨[(s "writelines" 929), (s "StringIO.writelines" 930), (s "/claim/cut.py" 931), (.int 429 0), (.int 2 0), (.int 2 0), (.int 0 0), (.int 3 0), (r 576), (.bool true), (.int 273 0), (r 577), n, (r 578), (r 579), (r 580), (.int 934 0), (.int 429 0), (s "/claim/cut.py" 935)]⟩, #[]⟩) ::
  (nat_lit 582, fn (md 12 31) "writelines" "StringIO.writelines" n n n (s "io" 294) none (r 581)) ::
  (nat_lit 583, ⟨(.type "tuple"), none, .seq ⟨[]⟩ 0, #[]⟩) ::
  (nat_lit 585, ⟨(.type "tuple"), none, .seq ⟨[(s "self" 940)]⟩ 0, #[]⟩) ::
  (nat_lit 586, ⟨(.type "tuple"), none, .seq ⟨[]⟩ 0, #[]⟩) ::
  (nat_lit 588, ⟨(.type "code"), none, .fields ⟨[(s "__repr__" 937), (s "StringIO.__repr__" 938), (s "/claim/cut.py" 939), (.int 432 0), (.int 1 0), (.int 0 0), (.int 0 0), (.int 3 0), (r 583), (.bool true), (.int 273 0), (r 584), n, (r 585), (r 586), (r 587), (.int 941 0), (.int 432 0), (s "/claim/cut.py" 942)]⟩, #[]⟩) ::
  (nat_lit 589, fn (md 12 32) "__repr__" "StringIO.__repr__" n n n (s "io" 294) none (r 588)) ::
  (nat_lit 590, ⟨(.type "tuple"), none, .seq ⟨[(s "__buf" 944), (s "__newline" 945), (s "__pos" 946)]⟩ 0, #[]⟩) ::
  (nat_lit 591, ⟨(.type "dict"), none, .dict ⟨[e P "__module__" 671 (s "_io" 676), e P "__firstlineno__" 675 (.int 229 674), e P "__init__" 688 (r 362), e P "_StringIO__translated" 697 (r 369), e P "_StringIO__check" 704 (r 376), e P "_StringIO__check_dot" 711 (r 383), e P "_StringIO__line" 726 (r 390), e P "closed" 734 (r 398), e P "line_buffering" 742 (r 406), e P "newlines" 750 (r 414), e P "encoding" 758 (r 422), e P "errors" 766 (r 430), e P "close" 773 (r 437), e P "__enter__" 780 (r 444), e P "__exit__" 788 (r 451), e P "readable" 795 (r 458), e P "writable" 802 (r 465), e P "seekable" 809 (r 472), e P "isatty" 816 (r 479), e P "flush" 823 (r 486), e P "fileno" 830 (r 493), e P "detach" 837 (r 500), e P "getvalue" 844 (r 507), e P "tell" 851 (r 514), e P "seek" 861 (r 522), e P "truncate" 869 (r 530), e P "read" 881 (r 538), e P "readline" 891 (r 546), e P "readlines" 901 (r 554), e P "__iter__" 908 (r 561), e P "__next__" 916 (r 568), e P "write" 928 (r 575), e P "writelines" 936 (r 582), e P "__repr__" 943 (r 589), e P "__static_attributes__" 947 (r 590), e P "__doc__" 948 n]⟩ 2, #[]⟩) ::
  (nat_lit 592, ⟨(.type "type"), none, .cls { name := Str.ofString "StringIO", bases := [(r 115)], mro := [(r 592), (r 115), (r 88), (.type "object")], ns := 591, qualname := Str.ofString "StringIO", subclasses := [] }, #[some (r 348), none, some (s "StringIO" 664), some (s "StringIO" 672), some n, some (.bool true)]⟩) ::
  (nat_lit 595, ⟨(.type "tuple"), none, .seq ⟨[]⟩ 0, #[]⟩) ::
  (nat_lit 597, ⟨(.type "tuple"), none, .seq ⟨[(s "name" 956), (s "x" 957), (s "t" 958)]⟩ 0, #[]⟩) ::
  (nat_lit 598, ⟨(.type "tuple"), none, .seq ⟨[]⟩ 0, #[]⟩) ::
  (nat_lit 600, ⟨(.type "code"), none, .fields ⟨[(s "_kind" 953), (s "_kind" 954), (s "/claim/cut.py" 955), (.int 435 0), (.int 2 0), (.int 0 0), (.int 0 0), (.int 3 0), (r 595), (.bool true), (.int 273 0), (r 596), n, (r 597), (r 598), (r 599), (.int 959 0), (.int 435 0), (s "/claim/cut.py" 960)]⟩, #[]⟩) ::
  (nat_lit 601, fn (tp 14) "_kind" "_kind" n n n (s "os.path" 951) none (r 600)) ::
  (nat_lit 602, ⟨(.type "tuple"), none, .seq ⟨[]⟩ 0, #[]⟩) ::
  (nat_lit 604, ⟨(.type "tuple"), none, .seq ⟨[(s "name" 965), (s "x" 966), (s "k" 967)]⟩ 0, #[]⟩) ::
  (nat_lit 605, ⟨(.type "tuple"), none, .seq ⟨[]⟩ 0, #[]⟩) ::
  (nat_lit 607, ⟨(.type "code"), none, .fields ⟨[(s "_fspath" 962), (s "_fspath" 963), (s "/claim/cut.py" 964), (.int 456 0), (.int 2 0), (.int 0 0), (.int 0 0), (.int 3 0), (r 602), (.bool true), (.int 273 0), (r 603), n, (r 604), (r 605), (r 606), (.int 968 0), (.int 456 0), (s "/claim/cut.py" 969)]⟩, #[]⟩) ::
  (nat_lit 608, fn (tp 15) "_fspath" "_fspath" n n n (s "os.path" 951) none (r 607)) ::
  (nat_lit 609, ⟨(.type "tuple"), none, .seq ⟨[]⟩ 0, #[]⟩) ::
  (nat_lit 611, ⟨(.type "tuple"), none, .seq ⟨[(s "funcname" 974), (s "args" 975), (s "s" 976), (s "k" 977)]⟩ 0, #[]⟩) ::
  (nat_lit 612, ⟨(.type "tuple"), none, .seq ⟨[]⟩ 0, #[]⟩) ::
  (nat_lit 614, ⟨(.type "code"), none, .fields ⟨[(s "_check_arg_types" 971), (s "_check_arg_types" 972), (s "/claim/cut.py" 973), (.int 461 0), (.int 1 0), (.int 0 0), (.int 0 0), (.int 7 0), (r 609), (.bool true), (.int 273 0), (r 610), n, (r 611), (r 612), (r 613), (.int 978 0), (.int 461 0), (s "/claim/cut.py" 979)]⟩, #[]⟩) ::
  (nat_lit 615, fn (tp 16) "_check_arg_types" "_check_arg_types" n n n (s "os.path" 951) none (r 614)) ::
  (nat_lit 616, ⟨(.type "tuple"), none, .seq ⟨[]⟩ 0, #[]⟩) ::
  (nat_lit 618, ⟨(.type "tuple"), none, .seq ⟨[(s "s" 984)]⟩ 0, #[]⟩) ::
  (nat_lit 619, ⟨(.type "tuple"), none, .seq ⟨[]⟩ 0, #[]⟩) ::
  (nat_lit 621, ⟨(.type "code"), none, .fields ⟨[(s "isabs" 981), (s "isabs" 982), (s "/claim/cut.py" 983), (.int 466 0), (.int 1 0), (.int 0 0), (.int 0 0), (.int 3 0), (r 616), (.bool true), (.int 273 0), (r 617), n, (r 618), (r 619), (r 620), (.int 985 0), (.int 466 0), (s "/claim/cut.py" 986)]⟩, #[]⟩) ::
  (nat_lit 622, fn (tp 17) "isabs" "isabs" n n n (s "os.path" 951) none (r 621)) ::
  (nat_lit 623, ⟨(.type "tuple"), none, .seq ⟨[]⟩ 0, #[]⟩) ::
  (nat_lit 625, ⟨(.type "tuple"), none, .seq ⟨[(s "a" 991), (s "p" 992), (s "b" 993), (s "sep" 994), (s "path" 995)]⟩ 0, #[]⟩) ::
  (nat_lit 626, ⟨(.type "tuple"), none, .seq ⟨[]⟩ 0, #[]⟩) ::
  (nat_lit 628, ⟨(.type "code"), none, .fields ⟨[(s "join" 988), (s "join" 989), (s "/claim/cut.py" 990), (.int 469 0), (.int 1 0), (.int 0 0), (.int 0 0), (.int 7 0), (r 623), (.bool true), (.int 273 0), (r 624), n, (r 625), (r 626), (r 627), (.int 996 0), (.int 469 0), (s "/claim/cut.py" 997)]⟩, #[]⟩) ::
  (nat_lit 629, fn (tp 18) "join" "join" n n n (s "os.path" 951) none (r 628)) ::
  (nat_lit 630, ⟨(.type "tuple"), none, .seq ⟨[]⟩ 0, #[]⟩) ::
  (nat_lit 632, ⟨(.type "tuple"), none, .seq ⟨[(s "p" 1002), (s "sep" 1003), (s "i" 1004), (s "head" 1005)]⟩ 0, #[]⟩) ::
  (nat_lit 633, ⟨(.type "tuple"), none, .seq ⟨[]⟩ 0, #[]⟩) ::
  (nat_lit 635, ⟨(.type "code"), none, .fields ⟨[(s "dirname" 999), (s "dirname" 1000), (s "/claim/cut.py" 1001), (.int 489 0), (.int 1 0), (.int 0 0), (.int 0 0), (.int 3 0), (r 630), (.bool true), (.int 273 0), (r 631), n, (r 632), (r 633), (r 634), (.int 1006 0), (.int 489 0), (s "/claim/cut.py" 1007)]⟩, #[]⟩) ::
  (nat_lit 636, fn (tp 19) "dirname" "dirname" n n n (s "os.path" 951) none (r 635)) ::
  (nat_lit 644, ⟨(.type "tuple"), none, .seq ⟨[n, n, (.bool false), (.bool false)]⟩ 0, #[]⟩) ::
  (nat_lit 645, ⟨(.type "tuple"), none, .seq ⟨[]⟩ 0, #[]⟩) ::
  (nat_lit 647, ⟨(.type "tuple"), none, .seq ⟨[(s "self" 1026), (s "instream" 1027), (s "infile" 1028), (s "posix" 1029), (s "punctuation_chars" 1030), (s "t" 1031)]⟩ 0, #[]⟩) ::
  (nat_lit 648, ⟨(.type "tuple"), none, .seq ⟨[]⟩ 0, #[]⟩) ::
  (nat_lit 650, ⟨(.type "code"), none, .fields ⟨[(s "__init__" 1023), (s "shlex.__init__" 1024), (s "/claim/cut.py" 1025), (.int 500 0), (.int 5 0), (.int 0 0), (.int 0 0), (.int 3 0), (r 645), (.bool true), (.int 273 0), (r 646), n, (r 647), (r 648), (r 649), (.int 1032 0), (.int 500 0), (s "/claim/cut.py" 1033)]⟩, #[]⟩) ::
  (nat_lit 651, fn (md 21 0) "__init__" "shlex.__init__" (r 644) n n (s "cpy313.shlex" 1009) none (r 650)) ::
  (nat_lit 652, ⟨(.type "tuple"), none, .seq ⟨[]⟩ 0, #[]⟩) ::
  (nat_lit 654, ⟨(.type "tuple"), none, .seq ⟨[(s "self" 1038)]⟩ 0, #[]⟩) ::
  (nat_lit 655, ⟨(.type "tuple"), none, .seq ⟨[]⟩ 0, #[]⟩) ::
  (nat_lit 657, ⟨(.type "code"), none, .fields ⟨[(s "punctuation_chars" 1035), (s "shlex.punctuation_chars" 1036), (s "/claim/cut.py" 1037), (.int 541 0), (.int 1 0), (.int 0 0), (.int 0 0), (.int 3 0), (r 652), (.bool true), (.int 273 0), (r 653), n, (r 654), (r 655), (r 656), (.int 1039 0), (.int 541 0), (s "/claim/cut.py" 1040)]⟩, #[]⟩) ::
  (nat_lit 658, fn (md 21 1) "punctuation_chars" "shlex.punctuation_chars" n n n (s "cpy313.shlex" 1009) none (r 657)) ::
  (nat_lit 659, ⟨(.type "property"), none, .fields ⟨[(r 658), n, n, n, (s "punctuation_chars" 1042), (.bool false)]⟩, #[]⟩) ::
  (nat_lit 660, ⟨(.type "tuple"), none, .seq ⟨[]⟩ 0, #[]⟩) ::
  (nat_lit 662, ⟨(.type "tuple"), none, .seq ⟨[(s "self" 1046), (s "tok" 1047)]⟩ 0, #[]⟩) ::
  (nat_lit 663, ⟨(.type "tuple"), none, .seq ⟨[]⟩ 0, #[]⟩) ::
  (nat_lit 665, ⟨(.type "code"), none, .fields ⟨[(s "push_token" 1043), (s "shlex.push_token" 1044), (s "/claim/cut.py" 1045), (.int 545 0), (.int 2 0), (.int 0 0), (.int 0 0), (.int 3 0), (r 660), (.bool true), (.int 273 0), (r 661), n, (r 662), (r 663), (r 664), (.int 1048 0), (.int 545 0), (s "/claim/cut.py" 1049)]⟩, #[]⟩) ::
  (nat_lit 666, fn (md 21 2) "push_token" "shlex.push_token" n n n (s "cpy313.shlex" 1009) none (r 665)) ::
  (nat_lit 667, ⟨(.type "tuple"), none, .seq ⟨[n]⟩ 0, #[]⟩) ::
  (nat_lit 668, ⟨(.type "tuple"), none, .seq ⟨[]⟩ 0, #[]⟩) ::
  (nat_lit 670, ⟨(.type "tuple"), none, .seq ⟨[(s "self" 1054), (s "newstream" 1055), (s "newfile" 1056)]⟩ 0, #[]⟩) ::
  (nat_lit 671, ⟨(.type "tuple"), none, .seq ⟨[]⟩ 0, #[]⟩) ::
  (nat_lit 673, ⟨(.type "code"), none, .fields ⟨[(s "push_source" 1051), (s "shlex.push_source" 1052), (s "/claim/cut.py" 1053), (.int 548 0), (.int 3 0), (.int 0 0), (.int 0 0), (.int 3 0), (r 668), (.bool true), (.int 273 0), (r 669), n, (r 670), (r 671), (r 672), (.int 1057 0), (.int 548 0), (s "/claim/cut.py" 1058)]⟩, #[]⟩) ::
  (nat_lit 674, fn (md 21 3) "push_source" "shlex.push_source" (r 667) n n (s "cpy313.shlex" 1009) none (r 673)) ::
  (nat_lit 675, ⟨(.type "tuple"), none, .seq ⟨[]⟩ 0, #[]⟩) ::
  (nat_lit 677, ⟨(.type "tuple"), none, .seq ⟨[(s "self" 1063)]⟩ 0, #[]⟩) ::
  (nat_lit 678, ⟨(.type "tuple"), none, .seq ⟨[]⟩ 0, #[]⟩) ::
  (nat_lit 680, ⟨(.type "code"), none, .fields ⟨[(s "pop_source" 1060), (s "shlex.pop_source" 1061), (s "/claim/cut.py" 1062), (.int 561 0), (.int 1 0), (.int 0 0), (.int 0 0), (.int 3 0), (r 675), (.bool true), (.int 273 0), (r 676), n, (r 677), (r 678), (r 679), (.int 1064 0), (.int 561 0), (s "/claim/cut.py" 1065)]⟩, #[]⟩) ::
  (nat_lit 681, fn (md 21 4) "pop_source" "shlex.pop_source" n n n (s "cpy313.shlex" 1009) none (r 680)) ::
  (nat_lit 682, ⟨(.type "tuple"), none, .seq ⟨[]⟩ 0, #[]⟩) ::
  (nat_lit 684, ⟨(.type "tuple"), none, .seq ⟨[(s "self" 1070), (s "tok" 1071), (s "raw" 1072), (s "spec" 1073), (s "newfile" 1074), (s "newstream" 1075)]⟩ 0, #[]⟩) ::
  (nat_lit 685, ⟨(.type "tuple"), none, .seq ⟨[]⟩ 0, #[]⟩) ::
  (nat_lit 687, ⟨(.type "code"), none, .fields ⟨[(s "get_token" 1067), (s "shlex.get_token" 1068), (s "/claim/cut.py" 1069), (.int 568 0), (.int 1 0), (.int 0 0), (.int 0 0), (.int 3 0), (r 682), (.bool true), (.int 273 0), (r 683), n, (r 684), (r 685), (r 686), (.int 1076 0), (.int 568 0), (s "/claim/cut.py" 1077)]⟩, #[]⟩) ::
  (nat_lit 688, fn (md 21 5) "get_token" "shlex.get_token" n n n (s "cpy313.shlex" 1009) none (r 687)) ::
  (nat_lit 689, ⟨(.type "tuple"), none, .seq ⟨[]⟩ 0, #[]⟩) ::
  (nat_lit 691, ⟨(.type "tuple"), none, .seq ⟨[(s "self" 1082), (s "quoted" 1083), (s "escapedstate" 1084), (s "nextchar" 1085), (s "result" 1086)]⟩ 0, #[]⟩) ::
  (nat_lit 692, ⟨(.type "tuple"), none, .seq ⟨[]⟩ 0, #[]⟩) ::
  (nat_lit 694, ⟨(.type "code"), none, .fields ⟨[(s "read_token" 1079), (s "shlex.read_token" 1080), (s "/claim/cut.py" 1081), (.int 595 0), (.int 1 0), (.int 0 0), (.int 0 0), (.int 3 0), (r 689), (.bool true), (.int 273 0), (r 690), n, (r 691), (r 692), (r 693), (.int 1087 0), (.int 595 0), (s "/claim/cut.py" 1088)]⟩, #[]⟩) ::
  (nat_lit 695, fn (md 21 6) "read_token" "shlex.read_token" n n n (s "cpy313.shlex" 1009) none (r 694)) ::
  (nat_lit 696, ⟨(.type "tuple"), none, .seq ⟨[]⟩ 0, #[]⟩) ::
  (nat_lit 698, ⟨(.type "tuple"), none, .seq ⟨[(s "self" 1093), (s "newfile" 1094)]⟩ 0, #[]⟩) ::
  (nat_lit 699, ⟨(.type "tuple"), none, .seq ⟨[]⟩ 0, #[]⟩) ::
  (nat_lit 701, ⟨(.type "code"), none, .fields ⟨[(s "sourcehook" 1090), (s "shlex.sourcehook" 1091), (s "/claim/cut.py" 1092), (.int 732 0), (.int 2 0), (.int 0 0), (.int 0 0), (.int 3 0), (r 696), (.bool true), (.int 273 0), (r 697), n, (r 698), (r 699), (r 700), (.int 1095 0), (.int 732 0), (s "/claim/cut.py" 1096)]⟩, #[]⟩) ::
  (nat_lit 702, fn (md 21 7) "sourcehook" "shlex.sourcehook" n n n (s "cpy313.shlex" 1009) none (r 701)) ::
  (nat_lit 703, ⟨(.type "tuple"), none, .seq ⟨[n, n]⟩ 0, #[]⟩) ::
  (nat_lit 704, ⟨(.type "tuple"), none, .seq ⟨[]⟩ 0, #[]⟩) ::
  (nat_lit 706, ⟨(.type "tuple"), none, .seq ⟨[(s "self" 1101), (s "infile" 1102), (s "lineno" 1103)]⟩ 0, #[]⟩) ::
  (nat_lit 707, ⟨(.type "tuple"), none, .seq ⟨[]⟩ 0, #[]⟩) ::
  (nat_lit 709, ⟨(.type "code"), none, .fields ⟨[(s "error_leader" 1098), (s "shlex.error_leader" 1099), (s "/claim/cut.py" 1100), (.int 739 0), (.int 3 0), (.int 0 0), (.int 0 0), (.int 3 0), (r 704), (.bool true), (.int 273 0), (r 705), n, (r 706), (r 707), (r 708), (.int 1104 0), (.int 739 0), (s "/claim/cut.py" 1105)]⟩, #[]⟩) ::
  (nat_lit 710, fn (md 21 8) "error_leader" "shlex.error_leader" (r 703) n n (s "cpy313.shlex" 1009) none (r 709)) ::
  (nat_lit 711, ⟨(.type "tuple"), none, .seq ⟨[]⟩ 0, #[]⟩) ::
  (nat_lit 713, ⟨(.type "tuple"), none, .seq ⟨[(s "self" 1110)]⟩ 0, #[]⟩) ::
  (nat_lit 714, ⟨(.type "tuple"), none, .seq ⟨[]⟩ 0, #[]⟩) ::
  (nat_lit 716, ⟨(.type "code"), none, .fields ⟨[(s "__iter__" 1107), (s "shlex.__iter__" 1108), (s "/claim/cut.py" 1109), (.int 742 0), (.int 1 0), (.int 0 0), (.int 0 0), (.int 3 0), (r 711), (.bool true), (.int 273 0), (r 712), n, (r 713), (r 714), (r 715), (.int 1111 0), (.int 742 0), (s "/claim/cut.py" 1112)]⟩, #[]⟩) ::
  (nat_lit 717, fn (md 21 9) "__iter__" "shlex.__iter__" n n n (s "cpy313.shlex" 1009) none (r 716)) ::
  (nat_lit 718, ⟨(.type "tuple"), none, .seq ⟨[]⟩ 0, #[]⟩) ::
  (nat_lit 720, ⟨(.type "tuple"), none, .seq ⟨[(s "self" 1117), (s "token" 1118)]⟩ 0, #[]⟩) ::
  (nat_lit 721, ⟨(.type "tuple"), none, .seq ⟨[]⟩ 0, #[]⟩) ::
  (nat_lit 723, ⟨(.type "code"), none, .fields ⟨[(s "__next__" 1114), (s "shlex.__next__" 1115), (s "/claim/cut.py" 1116), (.int 745 0), (.int 1 0), (.int 0 0), (.int 0 0), (.int 3 0), (r 718), (.bool true), (.int 273 0), (r 719), n, (r 720), (r 721), (r 722), (.int 1119 0), (.int 745 0), (s "/claim/cut.py" 1120)]⟩, #[]⟩) ::
  (nat_lit 724, fn (md 21 10) "__next__" "shlex.__next__" n n n (s "cpy313.shlex" 1009) none (r 723)) ::
  (nat_lit 725, ⟨(.type "tuple"), none, .seq ⟨[(s "_punctuation_chars" 1122), (s "_pushback_chars" 1123), (s "commenters" 1124), (s "debug" 1125), (s "eof" 1126), (s "escape" 1127), (s "escapedquotes" 1128), (s "filestack" 1129), (s "infile" 1130), (s "instream" 1131), (s "lineno" 1132), (s "posix" 1133), (s "pushback" 1134), (s "quotes" 1135), (s "source" 1136), (s "state" 1137), (s "token" 1138), (s "whitespace" 1139), (s "whitespace_split" 1140), (s "wordchars" 1141)]⟩ 0, #[]⟩) ::
  (nat_lit 726, ⟨(.type "dict"), none, .dict ⟨[e P "__module__" 1018 (s "cpy313.shlex" 1009), e P "__firstlineno__" 1022 (.int 498 1021), e P "__init__" 1034 (r 651), e P "punctuation_chars" 1042 (r 659), e P "push_token" 1050 (r 666), e P "push_source" 1059 (r 674), e P "pop_source" 1066 (r 681), e P "get_token" 1078 (r 688), e P "read_token" 1089 (r 695), e P "sourcehook" 1097 (r 702), e P "error_leader" 1106 (r 710), e P "__iter__" 1113 (r 717), e P "__next__" 1121 (r 724), e P "__static_attributes__" 1142 (r 725), e P "__dict__" 1144 (r 728), e P "__weakref__" 1146 (r 729), e P "__doc__" 1147 n]⟩ 4, #[]⟩) ::
  (nat_lit 727, ⟨(.type "type"), none, .cls { name := Str.ofString "shlex", bases := [(.type "object")], mro := [(r 727), (.type "object")], ns := 726, qualname := Str.ofString "shlex", subclasses := [] }, #[none, none, some (s "shlex" 1011), some (s "shlex" 1019), some (.builtin "object.__new__"), some (.bool true)]⟩) ::
  (nat_lit 728, ⟨(.type "getset_descriptor"), none, .fields ⟨[(s "__dict__" 1143), (r 727), (.builtin "function.__dict__"), (.builtin "function.__dict__#set")]⟩, #[]⟩) ::
  (nat_lit 729, ⟨(.type "getset_descriptor"), none, .fields ⟨[(s "__weakref__" 1145), (r 727), (.builtin "ExceptionGroup.__weakref__"), n]⟩, #[]⟩) ::
  (nat_lit 732, ⟨(.type "tuple"), none, .seq ⟨[(.bool false), (.bool true)]⟩ 0, #[]⟩) ::
  (nat_lit 733, ⟨(.type "tuple"), none, .seq ⟨[]⟩ 0, #[]⟩) ::
  (nat_lit 735, ⟨(.type "tuple"), none, .seq ⟨[(s "s" 1153), (s "comments" 1154), (s "posix" 1155), (s "lex" 1156)]⟩ 0, #[]⟩) ::
  (nat_lit 736, ⟨(.type "tuple"), none, .seq ⟨[]⟩ 0, #[]⟩) ::
  (nat_lit 738, ⟨(.type "code"), none, .fields ⟨[(s "split" 1150), (s "split" 1151), (s "/claim/cut.py" 1152), (.int 750 0), (.int 3 0), (.int 0 0), (.int 0 0), (.int 3 0), (r 733), (.bool true), (.int 273 0), (r 734), n, (r 735), (r 736), (r 737), (.int 1157 0), (.int 750 0), (s "/claim/cut.py" 1158)]⟩, #[]⟩) ::
  (nat_lit 739, fn (tp 22) "split" "split" (r 732) n n (s "cpy313.shlex" 1009) none (r 738)) ::
  (nat_lit 740, ⟨(.type "tuple"), none, .seq ⟨[]⟩ 0, #[]⟩) ::
  (nat_lit 742, ⟨(.type "tuple"), none, .seq ⟨[(s "kind" 1165), (s "more" 1166), (s "sign" 1167)]⟩ 0, #[]⟩) ::
  (nat_lit 743, ⟨(.type "tuple"), none, .seq ⟨[]⟩ 0, #[]⟩) ::
  (nat_lit 745, ⟨(.type "code"), none, .fields ⟨[(s "_law_outside" 1162), (s "_law_outside" 1163), (s "/claim/cut.py" 1164), (.int 759 0), (.int 2 0), (.int 0 0), (.int 0 0), (.int 3 0), (r 740), (.bool true), (.int 273 0), (r 741), n, (r 742), (r 743), (r 744), (.int 1168 0), (.int 759 0), (s "/claim/cut.py" 1169)]⟩, #[]⟩) ::
  (nat_lit 746, fn (tp 24) "_law_outside" "_law_outside" n n n (s "law_mq0398_01" 1160) none (r 745)) ::
  (nat_lit 747, ⟨(.type "tuple"), none, .seq ⟨[]⟩ 0, #[]⟩) ::
  (nat_lit 749, ⟨(.type "tuple"), none, .seq ⟨[(s "kind" 1174), (s "more" 1175), (s "sign" 1176)]⟩ 0, #[]⟩) ::
  (nat_lit 750, ⟨(.type "tuple"), none, .seq ⟨[]⟩ 0, #[]⟩) ::
  (nat_lit 752, ⟨(.type "code"), none, .fields ⟨[(s "_law_inside" 1171), (s "_law_inside" 1172), (s "/claim/cut.py" 1173), (.int 778 0), (.int 2 0), (.int 0 0), (.int 0 0), (.int 3 0), (r 747), (.bool true), (.int 273 0), (r 748), n, (r 749), (r 750), (r 751), (.int 1177 0), (.int 778 0), (s "/claim/cut.py" 1178)]⟩, #[]⟩) ::
  (nat_lit 753, fn (tp 25) "_law_inside" "_law_inside" n n n (s "law_mq0398_01" 1160) none (r 752)) ::
  (nat_lit 754, ⟨(.type "tuple"), none, .seq ⟨[]⟩ 0, #[]⟩) ::
  (nat_lit 756, ⟨(.type "tuple"), none, .seq ⟨[(s "script" 1183), (s "row" 1184), (s "inside" 1185), (s "x" 1186), (s "kind" 1187), (s "fault" 1188)]⟩ 0, #[]⟩) ::
  (nat_lit 757, ⟨(.type "tuple"), none, .seq ⟨[]⟩ 0, #[]⟩) ::
  (nat_lit 759, ⟨(.type "code"), none, .fields ⟨[(s "_law_row" 1180), (s "_law_row" 1181), (s "/claim/cut.py" 1182), (.int 795 0), (.int 1 0), (.int 0 0), (.int 0 0), (.int 3 0), (r 754), (.bool true), (.int 273 0), (r 755), n, (r 756), (r 757), (r 758), (.int 1189 0), (.int 795 0), (s "/claim/cut.py" 1190)]⟩, #[]⟩) ::
  (nat_lit 760, fn (tp 26) "_law_row" "_law_row" n n n (s "law_mq0398_01" 1160) none (r 759)) ::
  (nat_lit 761, ⟨(.type "tuple"), none, .seq ⟨[]⟩ 0, #[]⟩) ::
  (nat_lit 763, ⟨(.type "tuple"), none, .seq ⟨[(s "row" 1195), (s "inside" 1196), (s "fault" 1197)]⟩ 0, #[]⟩) ::
  (nat_lit 764, ⟨(.type "tuple"), none, .seq ⟨[]⟩ 0, #[]⟩) ::
  (nat_lit 766, ⟨(.type "code"), none, .fields ⟨[(s "_law_mended" 1192), (s "_law_mended" 1193), (s "/claim/cut.py" 1194), (.int 813 0), (.int 3 0), (.int 0 0), (.int 0 0), (.int 3 0), (r 761), (.bool true), (.int 273 0), (r 762), n, (r 763), (r 764), (r 765), (.int 1198 0), (.int 813 0), (s "/claim/cut.py" 1199)]⟩, #[]⟩) ::
  (nat_lit 767, fn (tp 27) "_law_mended" "_law_mended" n n n (s "law_mq0398_01" 1160) none (r 766)) ::
  (nat_lit 768, ⟨(.type "tuple"), none, .seq ⟨[]⟩ 0, #[]⟩) ::
  (nat_lit 770, ⟨(.type "tuple"), none, .seq ⟨[(s "row" 1204), (s "roles" 1205), (s "parts" 1206), (s "one" 1207)]⟩ 0, #[]⟩) ::
  (nat_lit 771, ⟨(.type "tuple"), none, .seq ⟨[]⟩ 0, #[]⟩) ::
  (nat_lit 773, ⟨(.type "code"), none, .fields ⟨[(s "_law_cut" 1201), (s "_law_cut" 1202), (s "/claim/cut.py" 1203), (.int 819 0), (.int 2 0), (.int 0 0), (.int 0 0), (.int 3 0), (r 768), (.bool true), (.int 273 0), (r 769), n, (r 770), (r 771), (r 772), (.int 1208 0), (.int 819 0), (s "/claim/cut.py" 1209)]⟩, #[]⟩) ::
  (nat_lit 774, fn (tp 28) "_law_cut" "_law_cut" n n n (s "law_mq0398_01" 1160) none (r 773)) ::
  (nat_lit 775, ⟨(.type "tuple"), none, .seq ⟨[]⟩ 0, #[]⟩) ::
  (nat_lit 777, ⟨(.type "tuple"), none, .seq ⟨[(s "row" 1214), (s "tokens" 1215), (s "part" 1216), (s "k" 1217)]⟩ 0, #[]⟩) ::
  (nat_lit 778, ⟨(.type "tuple"), none, .seq ⟨[]⟩ 0, #[]⟩) ::
  (nat_lit 780, ⟨(.type "code"), none, .fields ⟨[(s "_law_tokens" 1211), (s "_law_tokens" 1212), (s "/claim/cut.py" 1213), (.int 827 0), (.int 1 0), (.int 0 0), (.int 0 0), (.int 3 0), (r 775), (.bool true), (.int 273 0), (r 776), n, (r 777), (r 778), (r 779), (.int 1218 0), (.int 827 0), (s "/claim/cut.py" 1219)]⟩, #[]⟩) ::
  (nat_lit 781, fn (tp 29) "_law_tokens" "_law_tokens" n n n (s "law_mq0398_01" 1160) none (r 780)) ::
  (nat_lit 782, ⟨(.type "tuple"), none, .seq ⟨[]⟩ 0, #[]⟩) ::
  (nat_lit 784, ⟨(.type "tuple"), none, .seq ⟨[(s "text" 1224), (s "error" 1225)]⟩ 0, #[]⟩) ::
  (nat_lit 785, ⟨(.type "tuple"), none, .seq ⟨[]⟩ 0, #[]⟩) ::
  (nat_lit 787, ⟨(.type "code"), none, .fields ⟨[(s "_law_told_by_split" 1221), (s "_law_told_by_split" 1222), (s "/claim/cut.py" 1223), (.int 835 0), (.int 1 0), (.int 0 0), (.int 0 0), (.int 3 0), (r 782), (.bool true), (.int 273 0), (r 783), n, (r 784), (r 785), (r 786), (.int 1226 0), (.int 835 0), (s "/claim/cut.py" 1227)]⟩, #[]⟩) ::
  (nat_lit 788, fn (tp 30) "_law_told_by_split" "_law_told_by_split" n n n (s "law_mq0398_01" 1160) none (r 787)) ::
  (nat_lit 789, ⟨(.type "tuple"), none, .seq ⟨[]⟩ 0, #[]⟩) ::
  (nat_lit 791, ⟨(.type "tuple"), none, .seq ⟨[(s "text" 1232), (s "lexer" 1233), (s "told" 1234), (s "turn" 1235), (s "token" 1236), (s "error" 1237)]⟩ 0, #[]⟩) ::
  (nat_lit 792, ⟨(.type "tuple"), none, .seq ⟨[]⟩ 0, #[]⟩) ::
  (nat_lit 794, ⟨(.type "code"), none, .fields ⟨[(s "_law_told_by_lexer" 1229), (s "_law_told_by_lexer" 1230), (s "/claim/cut.py" 1231), (.int 840 0), (.int 1 0), (.int 0 0), (.int 0 0), (.int 3 0), (r 789), (.bool true), (.int 273 0), (r 790), n, (r 791), (r 792), (r 793), (.int 1238 0), (.int 840 0), (s "/claim/cut.py" 1239)]⟩, #[]⟩) ::
  (nat_lit 795, fn (tp 31) "_law_told_by_lexer" "_law_told_by_lexer" n n n (s "law_mq0398_01" 1160) none (r 794)) ::
  (nat_lit 796, ⟨(.type "tuple"), none, .seq ⟨[]⟩ 0, #[]⟩) ::
  (nat_lit 799, ⟨(.type "code"), none, .fields ⟨[(s "_law_agrees" 1241), (s "_law_agrees" 1242), (s "/claim/cut.py" 1243), (.int 852 0), (.int 2 0), (.int 0 0), (.int 0 0), (.int 3 0), (r 796), (.bool true), (.int 273 0), (r 797), n, n, n, (r 798), (.int 1244 0), (.int 852 0), (s "/claim/cut.py" 1245)]⟩, #[]⟩) ::
  (nat_lit 800, fn (tp 32) "_law_agrees" "_law_agrees" n n n (s "law_mq0398_01" 1160) none (r 799)) ::
  (nat_lit 801, ⟨(.type "tuple"), none, .seq ⟨[]⟩ 0, #[]⟩) ::
  (nat_lit 803, ⟨(.type "tuple"), none, .seq ⟨[(s "script" 1250), (s "row" 1251), (s "inside" 1252), (s "fault" 1253)]⟩ 0, #[]⟩) ::
  (nat_lit 804, ⟨(.type "tuple"), none, .seq ⟨[]⟩ 0, #[]⟩) ::
  (nat_lit 806, ⟨(.type "code"), none, .fields ⟨[(s "law" 1247), (s "law" 1248), (s "/claim/cut.py" 1249), (.int 865 0), (.int 1 0), (.int 0 0), (.int 0 0), (.int 3 0), (r 801), (.bool true), (.int 273 0), (r 802), n, (r 803), (r 804), (r 805), (.int 1254 0), (.int 865 0), (s "/claim/cut.py" 1255)]⟩, #[]⟩) ::
  (nat_lit 807, fn (tp 33) "law" "law" n n n (s "law_mq0398_01" 1160) none (r 806)) :: []
end
theorem look_fn {K : Frag} {f : Addr} {st : Stmt} {nm qual : String} {dV kV doc pm cdv : Value} {an : Option Addr} {prm : Arguments} {bdy : List Stmt} {scp : Scope} (hK : K.lookup f = some (Kt.fn st nm qual dV kV doc pm an cdv))
    (hP : prmOf st = prm) (hB : bdyOf st = bdy) (hS : scpOf st = scp) : K.lookup f = some ⟨.type "function", none, .func (fnOf (Str.ofString nm) (Str.ofString qual) prm bdy scp dV kV doc pm an cdv .none), #[]⟩ := by
  subst hP hB hS
  exact hK
noncomputable def asK : List Addr := [2, 3, 33, 35, 36, 38, 39, 40, 43, 44, 45, 47, 48, 50, 51, 52, 54, 55, 57, 58, 59, 66, 67, 68, 69, 79, 81, 82, 84, 85, 86, 87, 88, 89, 90, 91, 94, 101, 102, 103, 106, 113, 114, 115, 118, 125, 126, 128, 129, 131, 132, 133, 135, 136, 138, 139, 140, 142, 143, 145, 146, 147, 149, 150, 152, 153, 154, 155, 157, 158, 160, 161, 162, 164, 165, 167, 168, 169, 171, 172, 174, 175, 176, 178, 179, 181, 182, 183, 185, 186, 188, 189, 190, 192, 193, 195, 196, 197, 199, 200, 202, 203, 204, 206, 207, 209, 210, 211, 213, 214, 216, 217, 218, 220, 221, 223, 224, 225, 227, 228, 230, 231, 232, 234, 235, 237, 238, 239, 241, 242, 244, 245, 246, 247, 249, 250, 252, 253, 254, 255, 257, 258, 260, 261, 262, 263, 265, 266, 268, 269, 270, 271, 273, 274, 276, 277, 278, 280, 281, 283, 284, 285, 287, 288, 290, 291, 292, 293, 295, 296, 298, 299, 300, 301, 303, 304, 306, 307, 308, 310, 311, 313, 314, 315, 317, 318, 320, 321, 322, 324, 325, 327, 328, 329, 331, 332, 334, 335, 336, 338, 339, 341, 342, 343, 344, 345, 348, 355, 356, 358, 359, 361, 362, 363, 365, 366, 368, 369, 370, 372, 373, 375, 376, 377, 379, 380, 382, 383, 384, 386, 387, 389, 390, 391, 393, 394, 396, 397, 398, 399, 401, 402, 404, 405, 406, 407, 409, 410, 412, 413, 414, 415, 417, 418, 420, 421, 422, 423, 425, 426, 428, 429, 430, 431, 433, 434, 436, 437, 438, 440, 441, 443, 444, 445, 447, 448, 450, 451, 452, 454, 455, 457, 458, 459, 461, 462, 464, 465, 466, 468, 469, 471, 472, 473, 475, 476, 478, 479, 480, 482, 483, 485, 486, 487, 489, 490, 492, 493, 494, 496, 497, 499, 500, 501, 503, 504, 506, 507, 508, 510, 511, 513, 514, 515, 516, 518, 519, 521, 522, 523, 524, 526, 527, 529, 530, 531, 532, 534, 535, 537, 538, 539, 540, 542, 543, 545, 546, 547, 548, 550, 551, 553, 554, 555, 557, 558, 560, 561, 562, 564, 565, 567, 568, 569, 571, 572, 574, 575, 576, 578, 579, 581, 582, 583, 585, 586, 588, 589, 590, 591, 592, 595, 597, 598, 600, 601, 602, 604, 605, 607, 608, 609, 611, 612, 614, 615, 616, 618, 619, 621, 622, 623, 625, 626, 628, 629, 630, 632, 633, 635, 636, 644, 645, 647, 648, 650, 651, 652, 654, 655, 657, 658, 659, 660, 662, 663, 665, 666, 667, 668, 670, 671, 673, 674, 675, 677, 678, 680, 681, 682, 684, 685, 687, 688, 689, 691, 692, 694, 695, 696, 698, 699, 701, 702, 703, 704, 706, 707, 709, 710, 711, 713, 714, 716, 717, 718, 720, 721, 723, 724, 725, 726, 727, 728, 729, 732, 733, 735, 736, 738, 739, 740, 742, 743, 745, 746, 747, 749, 750, 752, 753, 754, 756, 757, 759, 760, 761, 763, 764, 766, 767, 768, 770, 771, 773, 774, 775, 777, 778, 780, 781, 782, 784, 785, 787, 788, 789, 791, 792, 794, 795, 796, 799, 800, 801, 803, 804, 806, 807]
end Mine
local macro_rules | `(tactic| walk_at "ho") => `(tactic| (refine' Mine.look_fn ?hK ?hP ?hB ?hS; (case hK => k_is); (case hP => (conv => lhs; whnf)); (case hB => (conv => lhs; whnf)); (case hS => (conv => lhs; whnf))))
local macro_rules | `(tactic| k_all) => `(tactic| assumption)
/-! H1 -/
namespace Mine
open PySem PySem.W PySem.Calls PyProof.Rows PySem.Spec

/-! the top is run with the heap as a tree -/
noncomputable def topG (okf : Nat → Option Value → Thread → Bool) (stp : SharedT → Thread → Option (SharedT × Thread)) (n₀ : Nat) (ann : Option Value) : Nat → SharedT → Thread → Option SharedT
  | 0, _, _ => none
  | n + 1, s, t => match through t with
    | true => some s
    | false => match okf n₀ ann t with
      | false => none
      | true => match stp s t with
        | some (s', t') => topG okf stp n₀ ann n s' t'
        | none => none
noncomputable abbrev topT (tb : String → Option Builtin) (p : Program) (w : World) (n₀ : Nat) (ann : Option Value) := topG stepOk (stepT (denote tb) p w) n₀ ann
theorem topT_of {tb : String → Option Builtin} {p : Program} {w : World} {n₀ : Nat} {ann : Option Value} : ∀ {n : Nat} {s s' : SharedT} {t : Thread}, topT tb p w n₀ ann n s t = some s' → topRun tb p w n₀ ann n s.abs t = some s'.abs
  | 0, _, _, _, h => by cases h
  | n + 1, s, s', t, h => by
    unfold topT topG at h
    unfold topRun
    cases ht : through t with
    | true => rw [ht] at h; cases h; rfl
    | false =>
      rw [ht] at h
      cases hk : stepOk n₀ ann t with
      | false => rw [hk] at h; cases h
      | true =>
        rw [hk] at h
        cases hs : stepT (denote tb) p w s t with
        | none => rw [hs] at h; cases h
        | some z => obtain ⟨s₂, t₂⟩ := z; rw [hs] at h; dsimp only; rw [stepT_spec hs]; exact topT_of h
noncomputable def impG (ex : Thread → Option (List Value)) (stp : SharedT → Thread → Option (SharedT × Thread)) : Nat → SharedT → Thread → Option SharedT
  | 0, _, _ => none
  | n + 1, s, t => match ex t with
    | some [] => some s
    | some (_ :: _) => none
    | none => match stp s t with
      | some (s', t') => impG ex stp n s' t'
      | none => none
noncomputable abbrev impT (tb : String → Option Builtin) (p : Program) (w : World) := impG Thread.atExitBegin (stepT (denote tb) p w)
theorem impT_of {tb : String → Option Builtin} {p : Program} {w : World} : ∀ {n : Nat} {s s' : SharedT} {t : Thread}, impT tb p w n s t = some s' → importEnds tb p w n s.abs t = some s'.abs
  | 0, _, _, _, h => by cases h
  | n + 1, s, s', t, h => by
    unfold impT impG at h
    unfold importEnds
    cases ht : t.atExitBegin with
    | some l =>
      rw [ht] at h
      cases l with
      | nil => cases h; rfl
      | cons a b => cases h
    | none =>
      rw [ht] at h
      cases hs : stepT (denote tb) p w s t with
      | none => rw [hs] at h; cases h
      | some z => obtain ⟨s₂, t₂⟩ := z; rw [hs] at h; dsimp only; rw [stepT_spec hs]; exact impT_of h
noncomputable def ofList : List Obj → Nat → BT → BT
  | [], _, t => t
  | o :: l, i, t => ofList l (i + 1) (t.ins i o)
theorem ins_some (o : Obj) : ∀ (t : BT) (n : Nat), (∀ i, (t.get i).isSome = true ↔ i < n) → ((t.ins n o).get n).isSome = true
  | .nil, n, h => by
    have h0 : n = 0 := by
      rcases Nat.eq_zero_or_pos n with e | e
      · exact e
      · have := (h 0).mpr e
        cases this
    subst h0
    rfl
  | .node v l r, n, h => by
    have h0 : n ≠ 0 := by
      have := (h 0).mp rfl
      omega
    rw [BT.ins_node, if_neg h0]
    by_cases h1 : n % 2 = 1
    · rw [if_pos h1, BT.get_node, if_neg h0, if_pos h1]
      refine ins_some o l (n / 2) fun i => ?_
      have := h (2 * i + 1)
      rw [BT.get_node, if_neg (by omega), if_pos (by omega), show (2 * i + 1) / 2 = i by omega] at this
      rw [this]
      omega
    · rw [if_neg h1, BT.get_node, if_neg h0, if_neg h1]
      refine ins_some o r (n / 2 - 1) fun i => ?_
      have := h (2 * i + 2)
      rw [BT.get_node, if_neg (by omega), if_neg (by omega), show (2 * i + 2) / 2 - 1 = i by omega] at this
      rw [this]
      omega
theorem ofList_abs (life : Life) : ∀ (l : List Obj) (n : Nat) (t : BT), (∀ i, (t.get i).isSome = true ↔ i < n) → absHeap (ofList l n t) (n + l.length) life = ⟨((absHeap t n life).objs.toList ++ l).toArray, life⟩
  | [], n, t, _ => by simp [ofList]; rfl
  | o :: l, n, t, h => by
    have hs := ins_some o t n h
    have hf : ∀ i, ((t.ins n o).get i).isSome = true ↔ i < n + 1 := fun i => by
      rw [BT.get_ins o t n hs i]
      by_cases e : i = n
      · subst e; simp
      · rw [if_neg e, h i]; omega
    have ih := ofList_abs life l (n + 1) (t.ins n o) hf
    rw [show n + (o :: l).length = n + 1 + l.length by simp; omega]
    show absHeap (ofList l (n + 1) (t.ins n o)) (n + 1 + l.length) life = _
    rw [ih, absHeap_ins hs]
    simp [Heap.push]
noncomputable def toT (s : Shared) : SharedT := ⟨ofList s.heap.objs.toList 0 .nil, s.heap.objs.size, s.heap.life, s.gens, s.drawn, s.toks, s.os⟩
theorem toT_abs (s : Shared) : (toT s).abs = s := by
  obtain ⟨⟨objs, life⟩, g, d, k, os⟩ := s
  have h := ofList_abs life objs.toList 0 .nil (fun i => by simp [BT.get])
  rw [Nat.zero_add] at h
  show Shared.mk (absHeap (ofList objs.toList 0 .nil) objs.size life) _ _ _ _ = _
  rw [show objs.size = objs.toList.length from Array.length_toList.symm, h]
  rfl
noncomputable def stG (x : Shared × Thread) : SharedT := ⟨.nil, 0, x.1.heap.life, x.1.gens, x.1.drawn, x.1.toks, x.1.os⟩
noncomputable abbrev st0 (p : Program) : SharedT := stG (start (opening p))
theorem st0_abs (p : Program) : (st0 p).abs = (start (opening p)).1 := rfl
/-- the opening and the top, by given words for a step -/
noncomputable def runG (stp : (Code → Sem Fin) → Program → World → SharedT → Thread → Option (SharedT × Thread)) (den : Code → Sem Fin) (okf : Nat → Option Value → Thread → Bool) (ex : Thread → Option (List Value))
    (sta : Program → Shared × Thread) (fen : Program → Shared → Option Shared) (nsm : Heap → Addr → Str → Option Value) (p : Program) (w : World) (N : Nat) : Option (Shared × SharedT) :=
  match impG ex (stp den (opening p) w) N (stG (sta (opening p))) (sta (opening p)).2 with
  | none => none
  | some s => match fen p s.abs with
    | none => none
    | some s₀ => match s₀.heap.isNs mainGlobals && s₀.gens.size == 0 with
      | false => none
      | true => match topG okf (stp den p w) s₀.heap.objs.size (nsm s₀.heap mainGlobals (Str.ofString "__annotations__")) N (toT s₀) (topStub p) with
        | none => none
        | some s₁ => some (s₀, s₁)
noncomputable abbrev runT (p : Program) (w : World) (N : Nat) : Option (Shared × SharedT) := runG stepT (denote treeTable) stepOk Thread.atExitBegin start fenceModules? Heap.nsMap p w N
/-- the same by the library's quick words -/
noncomputable abbrev runQ (p : Program) (w : World) (N : Nat) : Option (Shared × SharedT) :=
  runG Fast.tw10156331382660048174 (Fast.tw11892475500146522536 Fast.tw14364793385576792824) Fast.tw6613529449190102663 Fast.tw3805553451399329143 Fast.tw1435165496053646825 Fast.tw14289696077712309145 Fast.tw8920871248978507458 p w N
theorem runT_eq (p : Program) (w : World) (N : Nat) : runT p w N = runQ p w N := by
  unfold runT runQ
  rw [Fast.te10156331382660048174, Fast.te11892475500146522536, Fast.te14364793385576792824, Fast.te6613529449190102663, Fast.te3805553451399329143, Fast.te1435165496053646825, Fast.te14289696077712309145, Fast.te8920871248978507458]
noncomputable def endsOk (p : Program) (s₀ : Shared) (s₁ : Shared) : Bool := staticsOk (importedModules p.main.body) s₀.heap s₁.heap && namesBound p s₁.heap && gensDone s₁ && laidKept s₀.heap s₁.heap
theorem openEnds_of {p : Program} {w : World} {N : Nat} {s₀ : Shared} {t : SharedT} (h : runT p w N = some (s₀, t)) (hc : endsOk p s₀ t.abs = true) : openEnds treeTable p w N = some t.abs := by
  unfold runT runG at h
  cases h1 : impG Thread.atExitBegin (stepT (denote treeTable) (opening p) w) N (stG (start (opening p))) (start (opening p)).2 with
  | none => rw [h1] at h; cases h
  | some s =>
    rw [h1] at h
    dsimp only at h
    cases h2 : fenceModules? p s.abs with
    | none => rw [h2] at h; cases h
    | some z =>
      rw [h2] at h
      dsimp only at h
      cases h3 : (z.heap.isNs mainGlobals && z.gens.size == 0) with
      | false => rw [h3] at h; cases h
      | true =>
        rw [h3] at h
        dsimp only at h
        cases h4 : topG stepOk (stepT (denote treeTable) p w) z.heap.objs.size (z.heap.nsMap mainGlobals (Str.ofString "__annotations__")) N (toT z) (topStub p) with
        | none => rw [h4] at h; cases h
        | some y =>
          rw [h4] at h
          cases h
          have i1 : importEnds treeTable (opening p) w N (stG (start (opening p))).abs _ = _ := impT_of h1
          rw [show (stG (start (opening p))).abs = (start (opening p)).1 from rfl] at i1
          have i4 : topRun treeTable p w s₀.heap.objs.size (s₀.heap.nsMap mainGlobals (Str.ofString "__annotations__")) N (toT s₀).abs (topStub p) = _ := topT_of h4
          rw [toT_abs] at i4
          unfold openEnds fencedOpening
          rw [i1]
          show ((fenceModules? p s.abs).bind _) = _
          rw [h2]
          show topFrom treeTable p w N s₀ = _
          unfold topFrom
          rw [h3]
          show ((topRun treeTable p w s₀.heap.objs.size (s₀.heap.nsMap mainGlobals "__annotations__") N s₀ (topStub p)).bind _) = _
          rw [i4]
          show (match endsOk p s₀ t.abs with | true => some t.abs | false => none) = _
          rw [hc]
noncomputable def getT (t : SharedT) (a : Addr) : Option Obj := match Nat.blt a t.n with
  | true => alive ((t.tree.get a).getD default)
  | false => none
theorem getT_eq (t : SharedT) (a : Addr) : getT t a = t.abs.heap.get? a := by
  unfold getT
  show _ = (absHeap t.tree t.n t.life).get? a
  cases h : Nat.blt a t.n with
  | false =>
    refine (abs_get_none fun q => ?_).symm
    rw [show Nat.blt a t.n = true from Nat.ble_eq_true_of_le q] at h
    cases h
  | true =>
    have lt : a < t.n := Nat.le_of_ble_eq_true h
    unfold Heap.get?
    rw [absHeap_at, if_pos lt]
    generalize (t.tree.get a).getD default = o
    obtain ⟨c, d, dt, sl⟩ := o
    cases dt <;> rfl
theorem left_of {p q : Program} {loose : List Str} {Xt : Shared → Bool} {K : Params → Frag} {as : List Addr} {e : ∀ P, as = (K P).map (·.1)} {N : Nat}
    (h : ∀ w : World, (runQ p w N).map (fun x => (endsOk p x.1 x.2.abs, Fast.tw4187177175401517315 q loose (Fast.tw5923862056798008813 p.main.body) Xt true x.2.abs, as.map (getT x.2))) = some (true, openGood q loose, (K w.params).map fun p => some p.2)) :
    LeftO p q loose Xt (Hook.obs (kHook K as e)) (Hook.val (kHook K as e)) N := fun w => by
  have hw := h w
  rw [← Fast.te4187177175401517315, ← Fast.te5923862056798008813, ← runT_eq] at hw
  obtain ⟨⟨s₀, t⟩, h1, h2⟩ := Option.map_eq_some_iff.mp hw
  obtain ⟨e1, e2, e3⟩ : _ ∧ _ ∧ _ := by simpa only [Prod.mk.injEq] using h2
  rw [openEnds_of h1 e1]
  have e4 : as.map t.abs.heap.get? = (K w.params).map fun p => some p.2 := by
    rw [← e3]
    exact List.map_congr_left fun a _ => (getT_eq t a).symm
  exact congrArg some (Prod.ext e2 e4)
end Mine
/-! H2 -/
namespace Mine
open PySem PySem.W PySem.Calls PyProof.Rows PySem.Spec
theorem run_ok : ∀ w : World, (runQ PySem.Challenge.rw_mq0398_01.row.prog w 6000).map (fun x => (endsOk PySem.Challenge.rw_mq0398_01.row.prog x.1 x.2.abs, Fast.tw4187177175401517315 hd.view_39 loo (Fast.tw5923862056798008813 PySem.Challenge.rw_mq0398_01.row.prog.main.body) (fun s => xlAt hd.view_39 [] s && recOk (RowW.records PySem.Challenge.rw_mq0398_01.row.toRowW) s) true x.2.abs, asK.map (getT x.2))) = some (true, openGood hd.view_39 loo, (hd.heap_39 w.params).map fun p => some p.2) := by
  intro w
  kernel_rfl
end Mine
/-! HD -/
namespace Mine
open PySem PySem.W PySem.Calls PyProof.Rows PySem.Spec
theorem asK_ok : ∀ P, asK = (Mine.hd.heap_39 P).map (·.1) := fun _ => by kernel_rfl
end Mine
/-! RU -/
namespace Mine
open Lean
/-! the walk's lines, told short: a lemma, a letter a hole -/
abbrev Tac := Syntax
def nd (k : Name) (a : List Tac) : Tac := .node .none k a.toArray
def pt (s : String) (a : List Tac) : Tac := nd (.str `Lean.Parser.Tactic s) a
def pm (s : String) (a : List Tac) : Tac := nd (.str `Lean.Parser.Term s) a
def tk (s : String) : Tac := .atom .none s
def nul (a : List Tac) : Tac := nd `null a
def seq (ts : List Tac) : Tac := pt "tacticSeq" [pt "tacticSeq1Indented" [nul (ts.intersperse (tk ";"))]]
def par (ts : List Tac) : Tac := pt "paren" [tk "(", seq ts, tk ")"]
def bare (s : String) (a : List Tac) : Tac := pt s (tk s :: a)
def own (s : String) (a : List Tac) : Tac := nd (.str `PySem.W ("tacticK_" ++ s ++ (if a.isEmpty then "" else "_"))) (tk ("k_" ++ s) :: a)
def idn (s : String) : Tac := mkIdent (s.splitOn "." |>.foldl Name.str .anonymous)
def hol : Tac := pm "hole" [tk "_"]
def syn : Tac := pm "syntheticHole" [tk "?", tk "_"]
def ap (f : Tac) (a : List Tac) : Tac := pm "app" [f, nul a]
def byT (t : Tac) : Tac := pm "byTactic" [tk "by", seq [t]]
def cfg (a : List Tac) : Tac := pt "optConfig" [nul a]
def exa (t : Tac) : Tac := bare "exact" [t]
def ref (t : Tac) : Tac := bare "refine" [t]
def red (t : Tac) : Tac := pt "withReducible" [tk "with_reducible", seq [t]]
def una (t : Tac) : Tac := pt "withUnfoldingAll" [tk "with_unfolding_all", seq [t]]
def tri (t : Tac) : Tac := pt "tacticTry_" [tk "try", seq [t]]
def fst (ts : List Tac) : Tac := bare "first" [nul (ts.map fun t => nd `group [tk "|", seq [t]])]
def walkAt (s : String) : Tac := nd `PyProof.Rows.tacticWalk_at_ [tk "walk_at", Syntax.mkStrLit s]
def simpL (s : String) : Tac := pt "simp" [tk "simp", cfg [], nul [], nul [], nul (if s.isEmpty then [] else [tk "[", nul [pt "simpLemma" [nul [], nul [], idn s]], tk "]"]), nul []]
def dsi (s : String) : Tac := pt "dsimp" [tk "dsimp", cfg [], nul [], nul [tk "only"], nul (if s.isEmpty then [] else [tk "[", nul [pt "simpLemma" [nul [], nul [], idn s]], tk "]"]), nul []]
def rfT : Tac := pt "tacticRfl" [tk "rfl"]
def asu : Tac := bare "assumption" []
def dk : Tac := bare "decide" [cfg [pt "configItem" [pt "posConfigItem" [tk "+", idn "kernel"]]]]
def omg : Tac := bare "omega" [cfg []]
def inTab (t : String) (c : Char) : String := match (t.splitOn (String.singleton c ++ "=")) with | _ :: x :: _ => (x.splitOn " ").headD "" | _ => ""
def hole (c : Char) : Tac :=
  let a := inTab "a=asm n=inst i=is h=handed u=upd f=updF m=mem" c
  let b := inTab "r=rfl p=PySem.PassesOwn.never A=Mine.hx_a C=Mine.hx_c P=Mine.hx_sp" c
  if a != "" then own a [] else if b != "" then exa (idn b) else match c with
    | 'o' => omg
    | 'x' => walkAt "lx"
    | 'M' => walkAt "mem"
    | 'z' => par [simpL "PySem.sizeLine", omg]
    | 'y' => par [simpL "", omg]
    | 'w' => una rfT
    | 'W' => una (exa (idn "rfl"))
    | 'l' => exa (ap (idn "Nat.le_of_ble_eq_true") [idn "rfl"])
    | 'd' => bare "decide" [cfg []]
    | 'q' => fst [par [simpL "", bare "done" []], omg]
    | 'Q' => fst [omg, par [simpL "", omg]]
    | 'L' => exa (ap (idn "PyProof.Rows.News.isList") [byT (own "asm" []), byT (own "mem" [])])
    | 'c' => par [bare "intro" [nul [hol]], rfT]
    | 'S' => exa (ap (idn "kl_last_snoc") [hol, hol])
    | 'K' => fst [red asu, dk]
    | _ => asu
def var (s : String) : Tac := mkIdent (addMacroScope `ru (.mkSimple s) 1)
def vars (vs : String) : List Tac := if vs.isEmpty then [] else [bare "intro" [nul ((vs.splitOn " ").map var)]]
/-- the names made new, as a rule's own are -/
def fresh (t : Tac) : MacroM Tac := t.rewriteBottomUpM fun x => match x with
  | .ident _ _ n _ => if n.hasMacroScopes then return mkIdent (← Macro.addMacroScope n.eraseMacroScopes) else return x
  | _ => return x
def lt (v : String) : Tac := tri (own "lt" [var v])
def after (vs : String) (sweep : Bool) (t : List Tac) : Tac := par (t ++ vars vs ++ if sweep then [tri (own "sweep" [])] else [])
def key (i : Nat) : Tac := mkIdent (.mkSimple s!"k{i}")
/-- by its holes' names, one after the other -/
def lineW (whole : Bool) (l : String) (ks : String) (vs : String) (sweep : Bool) : Tac :=
  let ks := ks.toList.zipIdx
  after vs sweep ([bare "refine'" [ap (idn l) (ks.map fun x => if x.1 == '_' then syn else pm "syntheticHole" [tk "?", key x.2])]] ++
    ks.map (fun x => if x.1 == '_' then bare "skip" [] else bare "case" [nul [pt "caseArg" [nd `Lean.binderIdent [key x.2], nul []]], tk "=>", seq [hole x.1]]) ++ if whole then [own "whole" []] else [])
/-- its holes in place; a name st picks the argument st' -/
def put (l : String) (ks : String) (st : String) : Tac :=
  ref (ap (idn l) ((if st.isEmpty then [] else [pm "namedArgument" [tk "(", idn "st'", tk ":=", idn st, tk ")"]]) ++ ks.toList.map fun c => if c == '_' then syn else byT (hole c)))
def deep (l : String) (ks : String) : Tac := put l ks ""
/-- with what is reducible alone; the lexer's state of the step before is dropped -/
def slim (l : String) (ks : String) (vs : String) (st : String := "") : Tac := par ([red (put l ks st)] ++ (if vs.isEmpty then [] else [tri (bare "clear" [nul [var "P'"]])]) ++ vars vs)
def dflt (t : Tac) : Tac := own "dflt" [t]
def ruleH (l : String) (ks : String) (vs : String) (sweep : Bool) : Tac := par [own "here" [], lineW true l ks vs sweep]
def ruleN (l : String) (ks : String) (vs : String) (sweep : Bool) : Tac := par [own "here" [], lineW false l ks vs sweep]
def ruleD (l : String) (ks : String) (vs : String) (sweep : Bool) : Tac := par [own "here" [], dflt (lineW true l ks vs sweep)]
/-- a term from its text: names, figures, strings without a space, brackets -/
def rd1 (x : String) : Tac := if x == "_" then hol else if x.isNat then Syntax.mkNumLit x else if x.startsWith "\"" then Syntax.mkStrLit (x.replace "\"" "") else idn x
def rdm (l : List Tac) : Tac := match l with | [] => hol | [x] => x | f :: a => ap f a
def rda (x : Tac) (st : List (List Tac)) : List (List Tac) := match st with | [] => [[x]] | l :: r => (l ++ [x]) :: r
def rds (st : List (List Tac)) (x : String) : List (List Tac) :=
  if x == "" then st else if x == "(" then [] :: st else if x == ")" then (match st with | l :: r => rda (rdm l) r | [] => []) else rda (rd1 x) st
def rd (s : String) : Tac := rdm (List.headD ((((s.replace "(" "( ").replace ")" " )").splitOn " ").foldl rds [[]]) [])
/-- only where the goal speaks of the term -/
def shown (s : String) : Tac := red (pt "show" [tk "show", rd ("PySem.wpAny _ _ (" ++ s ++ ") _ _ _")])
def go (l : String) : Tac := ref (ap (idn l) [syn])
def goH (l : String) : Tac := par [own "here" [], go l]
def callAt (n : String) : Tac := par [shown ("PySem.call (PySem.Value.ref " ++ n ++ ") _ _"), go "Mine.at_call"]
def under (s : String) (ts : List Tac) : Tac := par [shown s, fst ts]
/-- one statement of a run of them: the steps' number forgotten, the last one taken bare -/
def oneStmt : Tac := par [own "here" [], red (go "Mine.gen_toks"), bare "intro" [nul [var "tk9"]], tri (dsi ""), red (fst [go "Mine.execs_one", go "PySem.wpAny_execs_cons"]), tri (dsi "")]
def onlx (r : Bool) : Tac := fst ([asu, exa (idn "Mine.getL_put_eq")] ++ (if r then [exa (idn "rfl")] else []) ++ [par [ref (ap (idn "Eq.trans") [ap (idn "Mine.getL_put_ne") [byT dk], syn]), walkAt "lx"]])
end Mine
/-! W0 -/
namespace Mine
open PySem PySem.W PySem.Calls PyProof.Rows PySem.Spec

noncomputable abbrev LL : List Str := looseW Mine.hd.view_39 [Str.ofString "UnsupportedOperation", Str.ofString "IOBase", Str.ofString "BufferedIOBase", Str.ofString "TextIOBase", Str.ofString "BytesIO", Str.ofString "StringIO", Str.ofString "shlex", Str.ofString "split"]

theorem fill_it : ∀ (w : World) (h : Heap), (Mine.hd.heap_39 w.params).In h → PySem.Challenge.rw_mq0398_01.row.prog = PySem.Challenge.rw_mq0398_01.row.prog := by
  k_fill
  intros; rfl

structure Amb (w : World) (mg mb : Str → Option Value) (mean : ExcName → Option Value) (n : Nat) (A A₀ : Around) (base h₀ : Heap) (env : Env) (outer : List Env) (L : Addr) : Prop where
  B : Below A₀ base outer h₀
  X : (Mine.hd.heap_39 w.params).In h₀
  T : Top Mine.hd.view_39 LL mean mg mb h₀
  hA : A.frames = some (env :: outer)
  hf : env.frame = some L
  hk : env.scope.kind = .function
  hd : A.depth + n < 999
  hu : A.units + 20 * n < 9900
  hh : A.handled = none

section
variable {w : World} {mg mb : Str → Option Value} {mean : ExcName → Option Value} {n : Nat} {A A₀ : Around} {base h₀ : Heap} {env : Env} {outer : List Env} {L : Addr} {s : Shared} {m : Str → Option Value} {news : List (Addr × Obj)}

theorem Amb.less {k : Nat} (a : Amb w mg mb mean n A A₀ base h₀ env outer L) (h : k ≤ n) : Amb w mg mb mean k A A₀ base h₀ env outer L :=
  { a with hd := by have := a.hd; omega, hu := by have := a.hu; omega }

theorem enter {R : Result → Shared → Prop} {name qual : Str} {params : Arguments} {body : List Stmt} {scope : Scope} {dV kV doc pm cdv ct oc : Value} {an od : Option Addr} {osl : Array (Option Value)} {f : Addr} {args : Args} {binds : List (Str × Value)}
    (a : Amb w mg mb mean (n + 1) A A₀ base h₀ env outer L) (F : Fr h₀ L s.heap m) (N : News h₀ L s.heap news)
    (ho : (Mine.hd.heap_39 w.params).lookup f = some ⟨oc, od, .func (fnOf name qual params body scope dV kV doc pm an cdv ct), osl⟩) (hcd : codeIn (Mine.hd.heap_39 w.params) cdv qual = true)
    (hbind : BindsTo s (fnOf name qual params body scope dV kV doc pm an cdv ct) args binds) (hloc : ∀ y ∈ binds, scope.names.lookup y.1 = some .local)
    (h : ∀ g L' h₁, Fr h₀ L g m → Amb w mg mb mean n (A.deeper (envOf qual scope L' f cdv)) A base g (envOf qual scope L' f cdv) (env :: outer) L' → Fr g L' h₁ (fun y => binds.reverse.lookup y) → News g L' h₁ news →
      wpAny (model Challenge.rw_mq0398_01.row.prog w) (A.deeper (envOf qual scope L' f cdv)) (execs body (envOf qual scope L' f cdv))
        (fun fl s' => LeaveK h₀ L m g R (match fl with | .ret v => v | _ => .none) s')
        (fun e s' => wpAny (model Challenge.rw_mq0398_01.row.prog w) (A.deeper (envOf qual scope L' f cdv)) (leaving (envOf qual scope L' f cdv) e) (fun _ s'' => R (.error e) s'') (fun e' s'' => R (.error e') s'') s')
        { s with heap := h₁, toks := s.toks + binds.length })
    (hco : scope.isCoroutine = false) (hgen : scope.isGenerator = false) (hk : scope.kind = .function)
    (hcell : ∀ x ∈ scope.names, x.2 ≠ .cell) : codeAny (model Challenge.rw_mq0398_01.row.prog w) A (.call (.ref f) args) R s :=
  code_def a.B F a.X N a.T a.hA a.hf a.hk ho hcd (by have := a.hd; unfold recursionLimit; omega) hbind hloc
    (fun g L' h₁ FG F' N' B' X' T' => h g L' h₁ FG ⟨B', X', T', Around.frames_deeper a.hA, rfl, hk, by have := a.hd; show A.depth + 1 + n < 999; omega, by have := a.hu; show A.units + 3 + 20 * n < 9900; omega, a.hh⟩ F' N') hco hgen hk hcell
end

section
variable {prog : Program} {w : World} {A : Around} {E : Value → Shared → Prop} {s : Shared} {env : Env} {h₀ : Heap} {x : Str} {body : List Stmt} {Q : Flow → Shared → Prop}

/-- a turn's end: the loop goes on -/
inductive TurnOn (h₀ : Heap) (L : Addr) (fp : List Addr) (own : List (Addr × Obj)) (Jn : (Str → Option Value) → List (Addr × Obj) → Prop) (s₁ s₂ : Shared) : Prop
  | mk (h' : Heap) (tk : Nat) (m₂ : Str → Option Value) (news₂ : List (Addr × Obj)) (e : s₂ = { s₁ with heap := h', toks := tk }) (F : Fr h₀ L h' m₂) (N : News h₀ L h' (news₂ ++ own)) (o : ∀ p ∈ news₂, p.1 ∉ fp) (j : Jn m₂ news₂) : TurnOn h₀ L fp own Jn s₁ s₂

noncomputable def StepJ (h₀ : Heap) (L : Addr) (fp : List Addr) (own : List (Addr × Obj)) (Jn : (Str → Option Value) → List (Addr × Obj) → Prop) (s₁ : Shared) (Q : Flow → Shared → Prop) (f : Flow) (s₂ : Shared) : Prop :=
  match f with
  | .ret v => Q (.ret v) s₂
  | .brk => Q .next s₂
  | _ => TurnOn h₀ L fp own Jn s₁ s₂

theorem news_swap {L : Addr} {h : Heap} {a b : List (Addr × Obj)} (N : News h₀ L h (a ++ b)) : News h₀ L h (b ++ a) := fun p hp => N p (by
  rcases List.mem_append.mp hp with q | q
  · exact List.mem_append_right _ q
  · exact List.mem_append_left _ q)

theorem loopAt {I : Addr} {fp : List Addr} {n : Nat} {P : Nat → Value → Prop} {St : Nat → Heap → Prop} {m : Str → Option Value} {news : List (Addr × Obj)} (W : Walks prog w A I fp [I] n P St)
    (hLf : env.locals ∉ fp) (hI : h₀.get? I = none) (hst : St 0 s.heap) (F : Fr h₀ env.locals s.heap m) (N : News h₀ env.locals s.heap news) (hoff : ∀ p ∈ news, p.1 ∉ fp)
    (alive : ∀ i h, St i h → ∀ b ∈ fp, ∃ o, h.get? b = some o)
    (J : Nat → (Str → Option Value) → List (Addr × Obj) → Prop) (h0 : J 0 m news)
    (turn : ∀ i v m₁ news₁ own h tk, i < n → P i v → J i m₁ news₁ → (∀ p ∈ news₁, p.1 ∉ fp) → (∀ p ∈ own, p.1 ∈ fp) → (∀ b ∈ fp, (∃ o, (b, o) ∈ own) ∨ ∃ o, h₀.get? b = some o) →
      Fr h₀ env.locals ({ s with heap := h, toks := tk } : Shared).heap (fun y => if y = x then some v else m₁ y) → News h₀ env.locals ({ s with heap := h, toks := tk } : Shared).heap (news₁ ++ own) →
      wpAny (model prog w) A (execs body env) (StepJ h₀ env.locals fp own (J (i + 1)) ({ s with heap := h, toks := tk } : Shared) Q) E ({ s with heap := h, toks := tk } : Shared))
    (done : ∀ h' tk m' news', Fr h₀ env.locals h' m' → News h₀ env.locals h' news' → (∀ p ∈ news', p.1 ∉ fp) → J n m' news' → Q .next { s with heap := h', toks := tk }) :
    LoopAtV prog w A h₀ env x body Q E (.ref I) s := by
  have hIf : I ∈ fp := W.sub I (List.mem_singleton.mpr rfl)
  refine ⟨I, fp, [I], n, P, St, m, news, fun i m news => J i m news ∧ ∀ p ∈ news, p.1 ∉ fp, rfl, W, hLf, fun b hb => by rw [List.mem_singleton.mp hb]; exact hI, fun p hp hb => hoff p hp (by rw [List.mem_singleton.mp hb]; exact hIf), hst, F, N, ⟨h0, hoff⟩, ?_, fun h' tk m' news' F' N' _ hJ => done h' tk m' news' F' N' hJ.2 hJ.1⟩
  rintro i v m₁ news₁ s₁ own ⟨h, tk, rfl⟩ hi hP hJ _ hown _ hin hst₁ F₁ N₁
  have hfp : ∀ b ∈ fp, (∃ o, (b, o) ∈ own) ∨ ∃ o, h₀.get? b = some o := fun b hb => by
    cases q : h₀.get? b with
    | some o => exact .inr ⟨o, rfl⟩
    | none => obtain ⟨o, ho⟩ := alive _ _ hst₁ b hb; exact .inl ⟨o, hin b hb q o ho⟩
  refine wpAny_mono (turn i v m₁ news₁ own h tk hi hP hJ.1 hJ.2 hown hfp F₁ (news_swap N₁)) (fun f s₂ hf => ?_) fun _ _ e => e
  have fin : TurnOn h₀ env.locals fp own (J (i + 1)) { s with heap := h, toks := tk } s₂ →
      LoopStepU h₀ env.locals [I] own (fun m news => J (i + 1) m news ∧ ∀ p ∈ news, p.1 ∉ fp) { s with heap := h, toks := tk } .next s₂ := by
    rintro ⟨h', tk, m₂, news₂, rfl, F₂, N₂, ho, hJ₂⟩
    exact ⟨rfl, h', tk, m₂, news₂, rfl, F₂, news_swap N₂, fun p hp hb => ho p hp (by rw [List.mem_singleton.mp hb]; exact hIf), hJ₂, ho⟩
  cases f with
  | ret v => exact hf
  | brk => exact hf
  | next => exact fin hf
  | cont => exact fin hf

/-- the walker stops here: a for's source is evaluated -/
noncomputable def AtIter (prog : Program) (w : World) (A : Around) (h₀ : Heap) (env : Env) (x : Str) (body : List Stmt) (Q : Flow → Shared → Prop) (E : Value → Shared → Prop) (xv : Value) (s₁ : Shared) : Prop :=
  wpAny (model prog w) A (pyIter xv) (fun it s₂ => LoopAtV prog w A h₀ env x body Q E it s₂) E s₁

theorem for_stop {L : Addr} {m : Str → Option Value} {px pos : Pos} {iter : Expr} (_F : Fr h₀ L s.heap m) (hx : env.kindOf x = some .local)
    (hp : (env.scope.kind == .class || (env.scope.kind == .module && env.locals != env.globals)) = false)
    (h : wpAny (model prog w) A (eval iter env) (fun xv s₁ => AtIter prog w A h₀ env x body Q E xv s₁) E s)
    (hs : ∀ x, foldedSetIterable iter env x = pure x := by intro _; rfl)
    (hE : PassesOwn (model prog w) A env E) :
    wpAny (model prog w) A (exec (.For (.Name x px) iter body [] pos) env) Q E s := For_invV h₀ hx hp h hs hE

theorem gen_toks {α : Type} {M : Model} {A : Around} {t : Sem α} {Q : α → Shared → Prop} {E : Value → Shared → Prop} {h : Heap} {g : Array GenState} {d : Drawn} {tk : Nat} {os : OsState} (k : ∀ tk', wpAny M A t Q E ⟨h, g, d, tk', os⟩) : wpAny M A t Q E ⟨h, g, d, tk, os⟩ := k tk
theorem execs_one {M : Model} {A : Around} {st : Stmt} {env : Env} {Q : Flow → Shared → Prop} {E : Value → Shared → Prop} {s : Shared} (h : wpAny M A (exec st env) Q E s) : wpAny M A (execs [st] env) Q E s :=
  wpAny_execs_cons (wpAny_mono h (fun f s' hq => by cases f <;> first | exact wpAny_execs_nil hq | exact hq) fun _ _ e => e)
theorem opaqueQ {α : Type} {M : Model} {A : Around} {t : Sem α} {Q : α → Shared → Prop} {E : Value → Shared → Prop} {s : Shared} (h : ∀ Q' : α → Shared → Prop, (∀ f s', Q f s' → Q' f s') → wpAny M A t Q' E s) : wpAny M A t Q E s := h Q fun _ _ x => x
theorem opaqueE {α : Type} {M : Model} {A : Around} {t : Sem α} {Q : α → Shared → Prop} {E : Value → Shared → Prop} {s : Shared} (h : ∀ E' : Value → Shared → Prop, (∀ e s', E e s' → E' e s') → wpAny M A t Q E' s) : wpAny M A t Q E s := h E fun _ _ x => x
/-- no way raises: the walk under a bar -/
theorem no_raise {α : Type} {M : Model} {t : Sem α} {Q : α → Shared → Prop} (h : wpAny M A t Q (fun _ _ => False) s) : wpAny M A t Q E s := wpAny_mono h (fun _ _ x => x) fun _ _ x => x.elim

theorem iter_list {l : Addr} {vs : Array Value} {m : Str → Option Value} {news : List (Addr × Obj)} (J : Nat → (Str → Option Value) → List (Addr × Obj) → Prop)
    (hh : A.handled = none) (hl : s.heap.IsList l vs) (hlL : env.locals ≠ l) (F : Fr h₀ env.locals s.heap m) (N : News h₀ env.locals s.heap news) (hoff : ∀ p ∈ news, p.1 ≠ l) (h0 : J 0 m news)
    (turn : ∀ I i v m₁ news₁ own h tk, vs[i]? = some v → J i m₁ news₁ → (∀ p ∈ news₁, p.1 ∉ [I, l]) → (∀ p ∈ own, p.1 ∈ [I, l]) → (∀ b ∈ [I, l], (∃ o, (b, o) ∈ own) ∨ ∃ o, h₀.get? b = some o) →
      Fr h₀ env.locals ({ s with heap := h, toks := tk } : Shared).heap (fun y => if y = x then some v else m₁ y) → News h₀ env.locals ({ s with heap := h, toks := tk } : Shared).heap (news₁ ++ own) →
      wpAny (model prog w) A (execs body env) (StepJ h₀ env.locals [I, l] own (J (i + 1)) ({ s with heap := h, toks := tk } : Shared) Q) E ({ s with heap := h, toks := tk } : Shared))
    (done : ∀ h' tk m' news', Fr h₀ env.locals h' m' → News h₀ env.locals h' news' → J vs.size m' news' → Q .next { s with heap := h', toks := tk }) :
    AtIter prog w A h₀ env x body Q E (.ref l) s := by
  unfold AtIter
  obtain ⟨ol, hol, _⟩ := id hl
  have hlt : l < s.heap.objs.size := Heap.lt_size hol
  refine wpAny_pyIter_list hl ?_
  have hI : h₀.get? s.heap.objs.size = none := none_at_size F
  refine loopAt (s := { s with heap := s.heap.push _ }) (news := news) (Walks.list (prog := prog) (w := w) hh s.heap.objs.size l (Nat.ne_of_lt hlt) vs) ?_ hI ⟨⟨_, Heap.get?_push_size _ rfl, rfl, rfl⟩, hl.at fun o e => Heap.get?_push_of_some _ e⟩ (F.push _)
    (fun p hp => ⟨Heap.get?_push_of_some _ (N p hp).1, (N p hp).2⟩) ?_ ?_ J h0 ?_ ?_
  · intro hm
    rcases List.mem_cons.mp hm with e | hm
    · exact absurd F.ns.lt (e ▸ Nat.lt_irrefl _)
    · exact hlL (List.mem_singleton.mp hm)
  · intro p hp hm
    rcases List.mem_cons.mp hm with e | hm
    · exact absurd (Heap.lt_size (N p hp).1) (e ▸ Nat.lt_irrefl _)
    · exact hoff p hp (List.mem_singleton.mp hm)
  · rintro i h ⟨⟨o1, h1, _⟩, o2, h2, _⟩ b hb
    rcases List.mem_cons.mp hb with rfl | hb
    · exact ⟨o1, h1⟩
    · rw [List.mem_singleton.mp hb]; exact ⟨o2, h2⟩
  · intro i v m₁ news₁ own h tk hi hP hJ ho hw hf F₁ N₁
    exact turn _ i v m₁ news₁ own h tk hP hJ ho hw hf F₁ N₁
  · intro h' tk m' news' F' N' _ hJ
    exact done h' tk m' news' F' N' hJ
/-- what is off is told by the addresses alone -/
theorem off_map {a b : List (Addr × Obj)} {fp : List Addr} (h : ∀ p ∈ a, p.1 ∉ fp) (e : a.map Prod.fst = b.map Prod.fst := by rfl) : ∀ p ∈ b, p.1 ∉ fp := fun p hp => by
  obtain ⟨q, hq, hqe⟩ := List.mem_map.mp (e ▸ List.mem_map.mpr ⟨p, hp, rfl⟩ : p.1 ∈ a.map Prod.fst)
  exact hqe ▸ h q hq
theorem off_new {own : List (Addr × Obj)} {fp : List Addr} (hfp : ∀ b ∈ fp, (∃ o, (b, o) ∈ own) ∨ ∃ o, h₀.get? b = some o) {q : Addr} (hN : h₀.get? q = none) (hlt : ∀ p ∈ own, p.1 < q) : q ∉ fp := fun hq => by
  rcases hfp q hq with ⟨o, ho⟩ | ⟨o, ho⟩
  · exact Nat.lt_irrefl _ (hlt _ ho)
  · rw [hN] at ho; cases ho
end
end Mine
/-! P0 -/
namespace Mine
open PySem PySem.W PySem.Calls PyProof.Rows PySem.Spec

/-- a piece of the row: what stands in the text, what parse_http_list keeps, what the shell keeps, the role -/
structure Pc where
  t : List Nat
  p : List Nat
  w : List Nat
  r : Int

noncomputable abbrev S (l : List Nat) : Str := ⟨l.toArray⟩

noncomputable def outsideF (kind more : Int) : List Pc :=
  if kind < 3 then let c := [97, 90, 55, 61, 45, 46].getD (more.fmod 6).toNat 0; [⟨[c], [c], [c], 0⟩]
  else if kind < 6 then [⟨[44], [], [44], 1⟩]
  else if kind < 8 then let c := [32, 9, 10, 13].getD (more.fmod 4).toNat 0; [⟨[c], [c], [], 2⟩]
  else if kind < 12 then [⟨[34], [34], [], 0⟩]
  else if kind < 14 then
    let c := [97, 44, 32, 92, 39, 35, 10, 61].getD (more.fmod 8).toNat 0
    if c = 44 then [⟨[92], [92], [], 0⟩, ⟨[44], [], [44], 3⟩] else [⟨[92, c], [92, c], [c], 0⟩]
  else if kind = 14 then [⟨[34, 34], [34, 34], [], 0⟩]
  else [⟨[44], [], [44], 1⟩, ⟨[32], [32], [], 2⟩]

noncomputable def insideF (kind more : Int) : Pc :=
  if kind < 4 then let c := [97, 44, 32, 39, 35, 61, 59, 10].getD (more.fmod 8).toNat 0; ⟨[c], [c], [c], 0⟩
  else if kind < 6 then
    let c := (more.fmod 55296).toNat
    let c' := if c = 34 ∨ c = 92 then 90 else c
    ⟨[c'], [c'], [c'], 0⟩
  else if kind < 9 then ⟨[92, 34], [34], [34], 0⟩
  else if kind = 9 then ⟨[92, 92], [92], [92], 0⟩
  else if kind = 10 then let c := [97, 44, 32, 39, 10].getD (more.fmod 5).toNat 0; ⟨[92, c], [c], [92, c], 0⟩
  else ⟨[34], [34], [], 0⟩

noncomputable abbrev tupO (vs : List Value) : Obj := { cls := .type "tuple", data := .seq vs.toArray }

/-- the ledger bears the piece as a tuple -/
noncomputable def PcAt (news : List (Addr × Obj)) (v : Value) (p : Pc) : Prop :=
  ∃ x t1 t2 t3 t4, v = .ref x ∧ (x, tupO [.str (S p.t) t1, .str (S p.p) t2, .str (S p.w) t3, .int p.r t4]) ∈ news

inductive All2 {α β : Type} (P : α → β → Prop) : List α → List β → Prop
  | nil : All2 P [] []
  | cons {a b as bs} : P a b → All2 P as bs → All2 P (a :: as) (b :: bs)

theorem All2.imp {α β : Type} {P Q : α → β → Prop} (h : ∀ a b, P a b → Q a b) : ∀ {as : List α} {bs : List β}, All2 P as bs → All2 Q as bs
  | _, _, .nil => .nil
  | _, _, .cons x r => .cons (h _ _ x) (r.imp h)
theorem All2.append {α β : Type} {P : α → β → Prop} : ∀ {as as' : List α} {bs bs' : List β}, All2 P as bs → All2 P as' bs' → All2 P (as ++ as') (bs ++ bs')
  | _, _, _, _, .nil, h => h
  | _, _, _, _, .cons x r, h => .cons x (r.append h)
theorem All2.length {α β : Type} {P : α → β → Prop} : ∀ {as : List α} {bs : List β}, All2 P as bs → as.length = bs.length
  | _, _, .nil => rfl
  | _, _, .cons _ r => by rw [List.length_cons, List.length_cons, r.length]
theorem All2.get {α β : Type} {P : α → β → Prop} : ∀ {as : List α} {bs : List β} {i : Nat} {a : α}, All2 P as bs → as[i]? = some a → ∃ b, bs[i]? = some b ∧ P a b
  | _, _, i, a, .nil, h => by simp at h
  | _, _, 0, a, .cons x r, h => by simp at h; subst h; exact ⟨_, rfl, x⟩
  | _, _, i + 1, a, .cons x r, h => by simp at h; obtain ⟨b, hb, hp⟩ := r.get h; exact ⟨b, by simpa using hb, hp⟩
theorem PcAt.mono {a b : List (Addr × Obj)} (h : ∀ p ∈ a, p ∈ b) {v : Value} {p : Pc} (x : PcAt a v p) : PcAt b v p := by
  obtain ⟨x, t1, t2, t3, t4, e, q⟩ := x
  exact ⟨x, t1, t2, t3, t4, e, h _ q⟩

theorem item_S {l : List Nat} {i : Int} (h0 : 0 ≤ i) (h1 : i < l.length) : Txt.item (S l) i = S [l.getD i.toNat 0] := by
  unfold Txt.item Txt.charAt seqIndex?
  have e1 : (S l).length = l.length := by simp [Str.length]
  have e2 : i.toNat < l.length := by omega
  have e3 : (if i < 0 then i + ((S l).length : Int) else i) = i := by rw [if_neg (by omega)]
  simp [e1, e2, h0, h1, show ¬ i < 0 by omega]

theorem PcAt.here {x : Addr} {s1 s2 s3 : Str} {t1 t2 t3 t4 : Tok} {r : Int} {nw : List (Addr × Obj)} {p : Pc} (h1 : s1 = S p.t) (h2 : s2 = S p.p) (h3 : s3 = S p.w) (h4 : r = p.r) :
    PcAt ((x, tupO [.str s1 t1, .str s2 t2, .str s3 t3, .int r t4]) :: nw) (.ref x) p := by
  subst h1 h2 h3 h4
  exact ⟨x, t1, t2, t3, t4, rfl, .head _⟩
theorem PcAt.next {q : Addr × Obj} {nw : List (Addr × Obj)} {v : Value} {p : Pc} (h : PcAt nw v p) : PcAt (q :: nw) v p := h.mono fun _ hp => .tail _ hp

theorem allLt_mem {d : Addr} : ∀ {l : List (Addr × Obj)}, AllLt d l → ∀ p ∈ l, p.1 < d
  | [], _, _, h => nomatch h
  | _ :: _, ⟨h, _⟩, _, .head _ => h
  | _ :: _, ⟨_, r⟩, p, .tail _ hp => allLt_mem r p hp
theorem lt1 {D l : Addr} {o : Obj} {news : List (Addr × Obj)} (h : D < l ∧ AllLt l news) : ∀ p ∈ [(D, o)] ++ news, p.1 < l := allLt_mem ⟨h.1, h.2⟩
theorem lt2 {D1 D2 l : Addr} {o1 o2 : Obj} {news : List (Addr × Obj)} (h : D2 < l ∧ D1 < l ∧ AllLt l news) : ∀ p ∈ [(D2, o2), (D1, o1)] ++ news, p.1 < l := allLt_mem ⟨h.1, h.2.1, h.2.2⟩
theorem ab1 {D : Addr} {o : Obj} {news : List (Addr × Obj)} (h : ∀ p ∈ news, p.1 < D) : ∀ p ∈ [(D, o)], ∀ q ∈ news, q.1 < p.1 := fun p hp q hq => by
  rw [List.mem_singleton.mp hp]; exact h q hq
theorem ab2 {D1 D2 : Addr} {o1 o2 : Obj} {news : List (Addr × Obj)} (h : ∀ p ∈ news, p.1 < D1) (h2 : D1 < D2 ∧ AllLt D2 news) : ∀ p ∈ [(D2, o2), (D1, o1)], ∀ q ∈ news, q.1 < p.1 := fun p hp q hq => by
  rcases List.mem_cons.mp hp with rfl | hp
  · exact allLt_mem h2.2 q hq
  · rw [List.mem_singleton.mp hp]; exact h q hq

noncomputable def rowStep (st : List Pc × Bool) (x : Int) : List Pc × Bool :=
  if st.2 = true then (st.1 ++ [insideF (x.fmod 16) (x.fdiv 16)], decide (x.fmod 16 < 11))
  else (st.1 ++ outsideF (x.fmod 16) (x.fdiv 16), decide (8 ≤ x.fmod 16) && decide (x.fmod 16 < 12))
noncomputable def rowF (xs : List Int) : List Pc × Bool := xs.foldl rowStep ([], false)
theorem rowF_snoc (xs : List Int) (x : Int) : rowF (xs ++ [x]) = rowStep (rowF xs) x := by simp [rowF]

/-- what is known of a frame's names -/
noncomputable def kn (l : List (Str × Value)) (m : Str → Option Value) : Str → Option Value := fun q => match l.lookup q with
  | some v => some v
  | none => m q
theorem kn_eq {l : List (Str × Value)} {m : Str → Option Value} (h : ∀ p ∈ l, m p.1 = some p.2) : m = kn l m := by
  funext q
  unfold kn
  cases e : l.lookup q with
  | none => rfl
  | some v =>
    have : ∀ l' : List (Str × Value), (∀ p ∈ l', m p.1 = some p.2) → l'.lookup q = some v → m q = some v := by
      intro l'
      induction l' with
      | nil => intro _ e; cases e
      | cons p r ih =>
        intro hp e
        obtain ⟨k, u⟩ := p
        rw [List.lookup_cons] at e
        by_cases hq : (q == k) = true
        · rw [hq] at e; cases e; rw [eq_of_beq hq]; exact hp _ (.head _)
        · simp only [hq] at e; exact ih (fun p hp' => hp p (.tail _ hp')) e
    exact this l h e
theorem kn3 {m : Str → Option Value} {a b c : Str} {x y z : Value} (ha : m a = some x) (hb : m b = some y) (hc : m c = some z) : m = kn [(a, x), (b, y), (c, z)] m :=
  kn_eq fun p hp => by
    rcases List.mem_cons.mp hp with rfl | hp
    · exact ha
    · rcases List.mem_cons.mp hp with rfl | hp
      · exact hb
      · rw [List.mem_singleton.mp hp]; exact hc
theorem kn2 {m : Str → Option Value} {a b : Str} {x y : Value} (ha : m a = some x) (hb : m b = some y) : m = kn [(a, x), (b, y)] m :=
  kn_eq fun p hp => by
    rcases List.mem_cons.mp hp with rfl | hp
    · exact ha
    · rw [List.mem_singleton.mp hp]; exact hb

theorem news_sub {g : Heap} {L : Addr} {h : Heap} {a b : List (Addr × Obj)} (N : News g L h a) (hs : ∀ p ∈ b, p ∈ a) : News g L h b := fun p hp => N p (hs p hp)
theorem news_mid {g : Heap} {L : Addr} {h : Heap} {x y : Addr × Obj} {a b : List (Addr × Obj)} (N : News g L h (x :: (a ++ y :: b))) : News g L h (x :: y :: (a ++ b)) :=
  news_sub N fun p hp => by
    simp only [List.mem_cons, List.mem_append] at hp ⊢
    rcases hp with h | h | h | h
    · exact .inl h
    · exact .inr (.inr (.inl h))
    · exact .inr (.inl h)
    · exact .inr (.inr (.inr h))
theorem ne_app {l : Addr} {o : Obj} {a b : List (Addr × Obj)} (h1 : ∀ p ∈ a, ∀ q ∈ (l, o) :: b, q.1 < p.1) (h2 : ∀ p ∈ b, p.1 ≠ l) : ∀ p ∈ a ++ b, p.1 ≠ l := fun p hp => by
  rcases List.mem_append.mp hp with q | q
  · exact Nat.ne_of_gt (h1 p q _ (.head _))
  · exact h2 p q

/-- the walker stops here: a call by contract -/
noncomputable def AtCall (w : World) (A : Around) (f : Addr) (args : List Value) (Q : Value → Shared → Prop) (E : Value → Shared → Prop) (s : Shared) : Prop :=
  wpAny (model Challenge.rw_mq0398_01.row.prog w) A (call (.ref f) args) Q E s
theorem at_call {w : World} {A : Around} {f : Addr} {args : List Value} {Q : Value → Shared → Prop} {E : Value → Shared → Prop} {s : Shared} (h : AtCall w A f args Q E s) :
    wpAny (model Challenge.rw_mq0398_01.row.prog w) A (call (.ref f) args) Q E s := h
theorem by_code {w : World} {A : Around} {f : Addr} {args : List Value} {Q : Value → Shared → Prop} {E : Value → Shared → Prop} {s : Shared}
    (h : codeAny (model Challenge.rw_mq0398_01.row.prog w) A (.call (.ref f) ⟨args, []⟩) (fun r s' => match r with | .ok (.ret v) => Q v s' | .ok _ => False | .error e => E e s') s) : AtCall w A f args Q E s := wpAny_call h

section
variable {w : World} {A : Around} {E : Value → Shared → Prop} {s : Shared} {h₀ : Heap} {L D b : Addr} {m : Str → Option Value} {news news' : List (Addr × Obj)} {rvs vs : List Value} {n n2 : Nat} {x : Value} {Q : Value → Shared → Prop}
theorem app_L {prog : Program} (F : Fr h₀ L s.heap m) (N : News h₀ L s.heap news) (U : Upd D (W.listOf rvs.toArray n) (W.listOf (rvs ++ [x]).toArray (n + 1)) news news')
    (hsz : rvs.length ≤ 100000) (h : ∀ h', Fr h₀ L h' m → News h₀ L h' news' → Q .none { s with heap := h' }) : wpAny (model prog w) A (call (.builtin "list.append") [.ref D, x]) Q E s :=
  append_K (its := rvs.toArray) F N (by simpa using U) h (by simp [sizeLine]; omega)
theorem ext_L {prog : Program} (F : Fr h₀ L s.heap m) (N : News h₀ L s.heap news) (hb : (b, W.listOf vs.toArray n2) ∈ news) (hne : vs.length ≠ 0) (U : Upd D (W.listOf rvs.toArray n) (W.listOf (rvs ++ vs).toArray (n + 1)) news news')
    (hsz : rvs.length ≤ 100000) (hs2 : vs.length ≤ 100000) (h : ∀ h', Fr h₀ L h' m → News h₀ L h' news' → Q .none { s with heap := h' }) : wpAny (model prog w) A (call (.builtin "list.extend") [.ref D, .ref b]) Q E s :=
  kl_extend F N hb rfl (by simpa using hne) (by simpa using U) (by simp [Builtin.List.listTooLong, sizeLine]; omega) (by simp [sizeLine]; omega) (by simp [sizeLine]; omega) h
end

theorem rowF_take {l : List Int} {i : Nat} {x : Int} (h : l[i]? = some x) : rowF (l.take (i + 1)) = rowStep (rowF (l.take i)) x := by
  rw [List.take_add_one, h]; exact rowF_snoc _ _
theorem rowStep_in {st : List Pc × Bool} {x : Int} (h : st.2 = true) : rowStep st x = (st.1 ++ [insideF (x.fmod 16) (x.fdiv 16)], decide (x.fmod 16 < 11)) := by unfold rowStep; rw [if_pos h]
theorem rowStep_out {st : List Pc × Bool} {x : Int} (h : st.2 = false) : rowStep st x = (st.1 ++ outsideF (x.fmod 16) (x.fdiv 16), decide (8 ≤ x.fmod 16) && decide (x.fmod 16 < 12)) := by unfold rowStep; rw [if_neg (by rw [h]; decide)]
/-- the whole of _law_row -/
noncomputable def rowAll (ns : List Int) : List Pc :=
  (rowF (ns.take 16)).1 ++ (if (ns.take 16).sum.fmod 3 = 1 then [⟨[92], if (rowF (ns.take 16)).2 = true then [] else [92], [], 0⟩] else [])
noncomputable def faultS (ns : List Int) : Str :=
  if (ns.take 16).sum.fmod 3 = 1 then Str.ofString "No escaped character" else if (rowF (ns.take 16)).2 = true then Str.ofString "No closing quotation" else Str.ofString ""

section
open PyProof.V
variable {prog : Program} {w : World} {A : Around} {E : Value → Shared → Prop} {s : Shared} {h₀ : Heap} {L t : Addr} {m : Str → Option Value} {news : List (Addr × Obj)}
theorem sum_G {xs : Array (Int × Tok)} {Q : Value → Shared → Prop} (hh : A.handled = none) (ht : s.heap.IsList t (intItems xs))
    (h : ∀ h' tk t', (∀ b o, s.heap.get? b = some o → h'.get? b = some o) → Q (.int (preSum (numAt xs) xs.size) t') { s with heap := h', toks := tk }) :
    wpAny (model prog w) A (call (.builtin "sum") [.ref t]) Q E s := by
  obtain ⟨o, ho, hc, n, hd⟩ := id ht
  have hne : t ≠ s.heap.objs.size := Nat.ne_of_lt (Heap.lt_size ho)
  have hsz : (intItems xs).size = xs.size := by simp [intItems]
  have W := (Walks.list (prog := prog) (w := w) (A := A.in1) hh s.heap.objs.size t hne (intItems xs)).toS
  rw [hsz] at W
  refine call_sum_walkAnyS (wpAny_pyIter_list ht ?_)
  refine ⟨s.heap.objs.size, _, _, _, _, _, _, numAt xs, rfl, W, ⟨⟨_, Heap.get?_push_size _ rfl, rfl, rfl⟩, ht.at fun o e => Heap.get?_push_of_some _ e⟩, fun b hb => ?_, fun i v hP => intItems_at hP, fun s' t' hm => ?_⟩
  · rcases List.mem_cons.mp hb with rfl | hb
    · exact Heap.lt_size (Heap.get?_push_size _ rfl)
    · obtain rfl := List.mem_singleton.mp hb
      exact Heap.lt_size (Heap.get?_push_of_some _ ho)
  · obtain ⟨h', g', d', tk', os'⟩ := s'
    have e1 : g' = s.gens := hm.gens
    have e2 : d' = s.drawn := hm.drawn
    have e3 : os' = s.os := hm.os
    subst e1 e2 e3
    exact h h' tk' t' fun b o e => hm.heap b o (fun hb => absurd (Heap.lt_size e) ((List.mem_singleton.mp hb) ▸ Nat.lt_irrefl _)) (Heap.get?_push_of_some _ e)
theorem sum_L {vs : List Value} {c : Nat} {ns : List Int} {Q : Value → Shared → Prop} (hh : A.handled = none) (F : Fr h₀ L s.heap m) (N : News h₀ L s.heap news) (hm : (t, W.listOf vs.toArray c) ∈ news) (hi : IntsAre vs ns)
    (h : ∀ h' tk t', Fr h₀ L h' m → News h₀ L h' news → Q (.int ns.sum t') { s with heap := h', toks := tk }) :
    wpAny (model prog w) A (call (.builtin "sum") [.ref t]) Q E s := by
  have hl : s.heap.IsList t vs.toArray := ⟨_, (N _ hm).1, rfl, c, rfl⟩
  obtain ⟨xs, hx⟩ := hi.allInts.items
  have hn : numsOf vs.toArray.toList = ns := by rw [show vs.toArray.toList = vs from rfl, hi.numsOf]
  rw [hx] at hl hn
  rw [nums_intItems] at hn
  refine sum_G hh hl fun h' tk t' hk => ?_
  have := h h' tk t' (F.keeps hk) (N.grown hk)
  rw [preSum_eq, List.take_of_length_le (by simp), hn]
  exact this
end

theorem news_A {g : Heap} {L : Addr} {h : Heap} {x y z r : Addr × Obj} {nw b : List (Addr × Obj)} (N : News g L h (x :: y :: z :: r :: (nw ++ b))) : News g L h (x :: r :: ((y :: nw) ++ b)) :=
  news_sub N fun p hp => by
    simp only [List.cons_append, List.mem_cons, List.mem_append] at hp ⊢
    rcases hp with h | h | h | h | h
    · exact .inl h
    · exact .inr (.inr (.inr (.inl h)))
    · exact .inr (.inl h)
    · exact .inr (.inr (.inr (.inr (.inl h))))
    · exact .inr (.inr (.inr (.inr (.inr h))))
theorem news_B {g : Heap} {L : Addr} {h : Heap} {x z r : Addr × Obj} {b : List (Addr × Obj)} (N : News g L h (x :: z :: r :: b)) : News g L h (x :: r :: b) :=
  news_sub N fun p hp => by
    simp only [List.mem_cons] at hp ⊢
    rcases hp with h | h | h
    · exact .inl h
    · exact .inr (.inr (.inl h))
    · exact .inr (.inr (.inr h))
theorem All2.same {α β : Type} {P : α → β → Prop} {as : List α} {bs bs' : List β} (h : All2 P as bs) (e : bs = bs') : All2 P as bs' := e ▸ h
theorem rowAll_in {ns : List Int} (h1 : (ns.take 16).sum.fmod 3 = 1) (h2 : (rowF (ns.take 16)).2 = true) : rowAll ns = (rowF (ns.take 16)).1 ++ [⟨[92], [], [], 0⟩] := by unfold rowAll; rw [if_pos h1, if_pos h2]
theorem rowAll_out {ns : List Int} (h1 : (ns.take 16).sum.fmod 3 = 1) (h2 : (rowF (ns.take 16)).2 = false) : rowAll ns = (rowF (ns.take 16)).1 ++ [⟨[92], [92], [], 0⟩] := by unfold rowAll; rw [if_pos h1, if_neg (by rw [h2]; decide)]
theorem rowAll_no {ns : List Int} (h1 : (ns.take 16).sum.fmod 3 ≠ 1) : rowAll ns = (rowF (ns.take 16)).1 := by unfold rowAll; rw [if_neg h1, List.append_nil]
theorem fault_esc {ns : List Int} (h1 : (ns.take 16).sum.fmod 3 = 1) : faultS ns = Str.ofString "No escaped character" := by unfold faultS; rw [if_pos h1]
theorem fault_quo {ns : List Int} (h1 : (ns.take 16).sum.fmod 3 ≠ 1) (h2 : (rowF (ns.take 16)).2 = true) : faultS ns = Str.ofString "No closing quotation" := by unfold faultS; rw [if_neg h1, if_pos h2]
theorem fault_no {ns : List Int} (h1 : (ns.take 16).sum.fmod 3 ≠ 1) (h2 : (rowF (ns.take 16)).2 = false) : faultS ns = Str.ofString "" := by unfold faultS; rw [if_neg h1, if_neg (by rw [h2]; decide)]
end Mine
/-! C1 -/
namespace Mine
open PySem PySem.W PySem.Calls PyProof.Rows PySem.Spec
theorem zz_C1 {P : Nat → Prop} (h : ∃ x, P x) : ∃ x, P x := by first | (w_top off; walk1; fail) | exact h
theorem fill_c1 : ∀ (w : World) (h : Heap), (Mine.hd.heap_39 w.params).In h → PySem.Challenge.rw_mq0398_01.row.prog = PySem.Challenge.rw_mq0398_01.row.prog := by
  k_fill
  intros; rfl
section
variable {w : World} {mg mb : Str → Option Value} {mean : ExcName → Option Value} {n : Nat} {A A₀ : Around} {base h₀ : Heap} {env : Env} {outer : List Env} {L : Addr} {s : Shared} {m : Str → Option Value} {news : List (Addr × Obj)}

theorem lit_out1 : Str.ofString "aZ7=-." = S [97, 90, 55, 61, 45, 46] := by decide +kernel
theorem lit_ws4 : Str.ofString " \t\n\r" = S [32, 9, 10, 13] := by decide +kernel
theorem lit_esc8 : Str.ofString "a, \\'#\n=" = S [97, 44, 32, 92, 39, 35, 10, 61] := by decide +kernel
theorem fmod_rng {x k : Int} (h : 0 < k) : 0 ≤ x.fmod k ∧ x.fmod k < k := ⟨Int.fmod_nonneg_of_pos _ h, Int.fmod_lt_of_pos _ h⟩
theorem item6 {x : Int} : Txt.item (Str.ofString "aZ7=-.") (x.fmod 6) = S [[97, 90, 55, 61, 45, 46].getD (x.fmod 6).toNat 0] := by
  rw [lit_out1]; exact item_S (fmod_rng (by decide)).1 (by have := (fmod_rng (x := x) (k := 6) (by decide)).2; simpa using this)
theorem item4 {x : Int} : Txt.item (Str.ofString " \t\n\r") (x.fmod 4) = S [[32, 9, 10, 13].getD (x.fmod 4).toNat 0] := by
  rw [lit_ws4]; exact item_S (fmod_rng (by decide)).1 (by have := (fmod_rng (x := x) (k := 4) (by decide)).2; simpa using this)
theorem item8 {x : Int} : Txt.item (Str.ofString "a, \\'#\n=") (x.fmod 8) = S [[97, 44, 32, 92, 39, 35, 10, 61].getD (x.fmod 8).toNat 0] := by
  rw [lit_esc8]; exact item_S (fmod_rng (by decide)).1 (by have := (fmod_rng (x := x) (k := 8) (by decide)).2; simpa using this)

theorem lit_nil : Str.ofString "" = S [] := by decide +kernel
theorem lit_bs : Str.ofString "\\" = S [92] := by decide +kernel
theorem lit_comma : Str.ofString "," = S [44] := by decide +kernel
theorem S_app (a b : List Nat) : S a ++ S b = S (a ++ b) := by
  show Str.mk (a.toArray ++ b.toArray) = _
  simp
theorem S_inj {a b : List Nat} (h : S a = S b) : a = b := by
  have := congrArg (fun x : Str => x.cps.toList) h
  simpa using this
theorem S_beq {a b : List Nat} : (S a == S b) = decide (a = b) := by
  by_cases h : a = b
  · subst h; simp
  · have : ¬ S a = S b := fun e => h (S_inj e)
    simp [h, this]
theorem comma8 {x : Int} {b : Bool} (h : (Txt.item (Str.ofString "a, \\'#\n=") (x.fmod 8) == Str.ofString ",") = b) : decide ([97, 44, 32, 92, 39, 35, 10, 61].getD (x.fmod 8).toNat 0 = 44) = b := by
  rw [item8, lit_comma, S_beq] at h
  rw [← h]
  simp
theorem bs8 {x : Int} : Str.ofString "\\" ++ Txt.item (Str.ofString "a, \\'#\n=") (x.fmod 8) = S [92, [97, 44, 32, 92, 39, 35, 10, 61].getD (x.fmod 8).toNat 0] := by
  rw [item8, lit_bs, S_app]; rfl

theorem outside_spec {R : Result → Shared → Prop} {kind more : Int} {tk tm : Tok} (a : Amb w mg mb mean 1 A A₀ base h₀ env outer L) (F : Fr h₀ L s.heap m) (N : News h₀ L s.heap news)
    (k : ∀ l vs nw h' tk', Fr h₀ L h' m → News h₀ L h' ((l, W.listOf vs.toArray 0) :: (nw ++ news)) → All2 (PcAt nw) vs (outsideF kind more) → (∀ p ∈ nw, ∀ q ∈ news, q.1 < p.1) → (∀ p ∈ nw ++ news, p.1 < l) → R (.ok (.ret (.ref l))) { s with heap := h', toks := tk' }) :
    codeAny (model Challenge.rw_mq0398_01.row.prog w) A (.call (.ref 746) ⟨[.int kind tk, .int more tm], []⟩) R s := by
  refine' enter a F N ?ho ?hcd ?hb ?hl ?_ ?c1 ?c2 ?c3 ?c4
  case ho => walk_at "ho"
  case hcd => k_is
  case hb => exact BindsTo.of_eq rfl
  case hl => exact locs rfl
  case c1 => exact rfl
  case c2 => exact rfl
  case c3 => exact rfl
  case c4 => decide
  intro g L' h' FG' Am F' N'
  obtain ⟨B', X', T', hA', hf', hk', hd', hu', hh'⟩ := Am
  skip
  (try dsimp only)
  (try k_fold)
  k_steps
  all_goals (refine leaveK_ (by assumption) (by assumption) (fun F1 N1 => ?_))
  · refine k _ [_] [_] _ _ F1 N1 ?_ (ab1 (by assumption)) (lt1 (by assumption))
    rw [show outsideF kind more = _ from by unfold outsideF; rw [if_pos (by omega)]]
    exact .cons (.here item6 item6 item6 rfl) .nil
  · refine k _ [_] [_] _ _ F1 N1 ?_ (ab1 (by assumption)) (lt1 (by assumption))
    rw [show outsideF kind more = _ from by unfold outsideF; rw [if_neg (by omega), if_pos (by omega)]]
    exact .cons (.here (by decide +kernel) (by decide +kernel) (by decide +kernel) rfl) .nil
  · refine k _ [_] [_] _ _ F1 N1 ?_ (ab1 (by assumption)) (lt1 (by assumption))
    rw [show outsideF kind more = _ from by unfold outsideF; rw [if_neg (by omega), if_neg (by omega), if_pos (by omega)]]
    exact .cons (.here item4 item4 lit_nil rfl) .nil
  · refine k _ [_] [_] _ _ F1 N1 ?_ (ab1 (by assumption)) (lt1 (by assumption))
    rw [show outsideF kind more = _ from by unfold outsideF; rw [if_neg (by omega), if_neg (by omega), if_neg (by omega), if_pos (by omega)]]
    exact .cons (.here (by decide +kernel) (by decide +kernel) (by decide +kernel) rfl) .nil
  · refine k _ [_, _] [_, _] _ _ F1 N1 ?_ (ab2 (by assumption) (by assumption)) (lt2 (by assumption))
    rw [show outsideF kind more = _ from by unfold outsideF; rw [if_neg (by omega), if_neg (by omega), if_neg (by omega), if_neg (by omega), if_pos (by omega)]]
    dsimp only
    rw [if_pos (of_decide_eq_true (comma8 (by assumption)))]
    exact .cons (.next (.here lit_bs lit_bs lit_nil rfl)) (.cons (.here lit_comma lit_nil lit_comma rfl) .nil)
  · refine k _ [_] [_] _ _ F1 N1 ?_ (ab1 (by assumption)) (lt1 (by assumption))
    rw [show outsideF kind more = _ from by unfold outsideF; rw [if_neg (by omega), if_neg (by omega), if_neg (by omega), if_neg (by omega), if_pos (by omega)]]
    dsimp only
    rw [if_neg (of_decide_eq_false (comma8 (by assumption)))]
    exact .cons (.here bs8 bs8 item8 rfl) .nil
  · refine k _ [_] [_] _ _ F1 N1 ?_ (ab1 (by assumption)) (lt1 (by assumption))
    rw [show outsideF kind more = _ from by unfold outsideF; rw [if_neg (by omega), if_neg (by omega), if_neg (by omega), if_neg (by omega), if_neg (by omega), if_pos (by omega)]]
    exact .cons (.here (by decide +kernel) (by decide +kernel) (by decide +kernel) rfl) .nil
  · refine k _ [_, _] [_, _] _ _ F1 N1 ?_ (ab2 (by assumption) (by assumption)) (lt2 (by assumption))
    rw [show outsideF kind more = _ from by unfold outsideF; rw [if_neg (by omega), if_neg (by omega), if_neg (by omega), if_neg (by omega), if_neg (by omega), if_neg (by omega)]]
    exact .cons (.next (.here (by decide +kernel) (by decide +kernel) (by decide +kernel) rfl)) (.cons (.here (by decide +kernel) (by decide +kernel) (by decide +kernel) rfl) .nil)
theorem lit_in8 : Str.ofString "a, '#=;\n" = S [97, 44, 32, 39, 35, 61, 59, 10] := by decide +kernel
theorem lit_in5 : Str.ofString "a, '\n" = S [97, 44, 32, 39, 10] := by decide +kernel
theorem lit_q : Str.ofString "\"" = S [34] := by decide +kernel
theorem initem8 {x : Int} : Txt.item (Str.ofString "a, '#=;\n") (x.fmod 8) = S [[97, 44, 32, 39, 35, 61, 59, 10].getD (x.fmod 8).toNat 0] := by
  rw [lit_in8]; exact item_S (fmod_rng (by decide)).1 (by have := (fmod_rng (x := x) (k := 8) (by decide)).2; simpa using this)
theorem initem5 {x : Int} : Txt.item (Str.ofString "a, '\n") (x.fmod 5) = S [[97, 44, 32, 39, 10].getD (x.fmod 5).toNat 0] := by
  rw [lit_in5]; exact item_S (fmod_rng (by decide)).1 (by have := (fmod_rng (x := x) (k := 5) (by decide)).2; simpa using this)
theorem bs5 {x : Int} : Str.ofString "\\" ++ Txt.item (Str.ofString "a, '\n") (x.fmod 5) = S [92, [97, 44, 32, 39, 10].getD (x.fmod 5).toNat 0] := by
  rw [initem5, lit_bs, S_app]; rfl
theorem q1 {c : Nat} {b : Bool} (h : ((⟨#[c]⟩ : Str) == Str.ofString "\"") = b) : decide (c = 34) = b := by
  rw [lit_q, show (⟨#[c]⟩ : Str) = S [c] from rfl, S_beq] at h
  rw [← h]; simp
theorem b1 {c : Nat} {b : Bool} (h : ((⟨#[c]⟩ : Str) == Str.ofString "\\") = b) : decide (c = 92) = b := by
  rw [lit_bs, show (⟨#[c]⟩ : Str) = S [c] from rfl, S_beq] at h
  rw [← h]; simp
theorem inF2 {kind more : Int} (h1 : ¬ kind < 4) (h2 : kind < 6) (h : (more.fmod 55296).toNat = 34 ∨ (more.fmod 55296).toNat = 92) : insideF kind more = ⟨[90], [90], [90], 0⟩ := by
  unfold insideF; rw [if_neg h1, if_pos h2]; dsimp only; rw [if_pos h]
theorem inF3 {kind more : Int} (h1 : ¬ kind < 4) (h2 : kind < 6) (h : ¬ (more.fmod 55296).toNat = 34) (h' : ¬ (more.fmod 55296).toNat = 92) : insideF kind more = ⟨[(more.fmod 55296).toNat], [(more.fmod 55296).toNat], [(more.fmod 55296).toNat], 0⟩ := by
  unfold insideF; rw [if_neg h1, if_pos h2]; dsimp only; rw [if_neg (by omega)]

theorem inside_spec {R : Result → Shared → Prop} {kind more : Int} {tk tm : Tok} (a : Amb w mg mb mean 1 A A₀ base h₀ env outer L) (F : Fr h₀ L s.heap m) (N : News h₀ L s.heap news)
    (k : ∀ v l o h' tk', Fr h₀ L h' m → News h₀ L h' ((l, o) :: news) → PcAt [(l, o)] v (insideF kind more) → (∀ p ∈ news, p.1 < l) → R (.ok (.ret v)) { s with heap := h', toks := tk' }) :
    codeAny (model Challenge.rw_mq0398_01.row.prog w) A (.call (.ref 753) ⟨[.int kind tk, .int more tm], []⟩) R s := by
  refine' enter a F N ?ho ?hcd ?hb ?hl ?_ ?c1 ?c2 ?c3 ?c4
  case ho => walk_at "ho"
  case hcd => k_is
  case hb => exact BindsTo.of_eq rfl
  case hl => exact locs rfl
  case c1 => exact rfl
  case c2 => exact rfl
  case c3 => exact rfl
  case c4 => decide
  intro g L' h' FG' Am F' N'
  obtain ⟨B', X', T', hA', hf', hk', hd', hu', hh'⟩ := Am
  (try dsimp only)
  (try k_fold)
  k_steps
  all_goals (refine leaveK_ (by assumption) (by assumption) (fun F1 N1 => ?_); refine k _ _ _ _ _ F1 N1 ?_ (by assumption))
  · rw [show insideF kind more = _ from by unfold insideF; rw [if_pos (by omega)]]
    exact .here initem8 initem8 initem8 rfl
  · rw [inF2 (by assumption) (by assumption) (.inl (of_decide_eq_true (q1 (by assumption))))]
    exact .here (by decide +kernel) (by decide +kernel) (by decide +kernel) rfl
  · rw [inF2 (by assumption) (by assumption) (.inr (of_decide_eq_true (b1 (by assumption))))]
    exact .here (by decide +kernel) (by decide +kernel) (by decide +kernel) rfl
  · rw [inF3 (by assumption) (by assumption) (of_decide_eq_false (q1 (by assumption))) (of_decide_eq_false (b1 (by assumption)))]
    exact .here rfl rfl rfl rfl
  · rw [show insideF kind more = _ from by unfold insideF; rw [if_neg (by omega), if_neg (by omega), if_pos (by omega)]]
    exact .here (by decide +kernel) (by decide +kernel) (by decide +kernel) rfl
  · rw [show insideF kind more = _ from by unfold insideF; rw [if_neg (by omega), if_neg (by omega), if_neg (by omega), if_pos (by omega)]]
    exact .here (by decide +kernel) (by decide +kernel) (by decide +kernel) rfl
  · rw [show insideF kind more = _ from by unfold insideF; rw [if_neg (by omega), if_neg (by omega), if_neg (by omega), if_neg (by omega), if_pos (by omega)]]
    exact .here bs5 initem5 bs5 rfl
  · rw [show insideF kind more = _ from by unfold insideF; rw [if_neg (by omega), if_neg (by omega), if_neg (by omega), if_neg (by omega), if_neg (by omega)]]
    exact .here (by decide +kernel) (by decide +kernel) (by decide +kernel) rfl
end
end Mine
/-! C2 -/
namespace Mine
open PySem PySem.W PySem.Calls PyProof.Rows PySem.Spec
theorem zz_C2 {P : Nat → Prop} (h : ∃ x, P x) : ∃ x, P x := by first | (w_top off; walk1; fail) | exact h
theorem fill_c2 : ∀ (w : World) (h : Heap), (Mine.hd.heap_39 w.params).In h → PySem.Challenge.rw_mq0398_01.row.prog = PySem.Challenge.rw_mq0398_01.row.prog := by
  k_fill
  intros; rfl
section
variable {w : World} {mg mb : Str → Option Value} {mean : ExcName → Option Value} {n : Nat} {A A₀ : Around} {base h₀ : Heap} {env : Env} {outer : List Env} {L : Addr} {s : Shared} {m : Str → Option Value} {news : List (Addr × Obj)}

local macro_rules | `(tactic| walk_at "exec For") => fresh (ruleN "for_stop" "arr_cp" "" false)

local macro_rules | `(tactic| walk_at "call ref") => fresh (callAt "753")
local macro_rules | `(tactic| walk_at "call ref") => fresh (callAt "746")
local macro_rules | `(tactic| walk_at "call builtin:list.append") => fresh (ruleH "app_L" "aauo_" "h' F' N'" true)
local macro_rules | `(tactic| walk_at "call builtin:list.extend") => fresh (ruleH "ext_L" "aamouoo_" "h' F' N'" true)

local macro_rules | `(tactic| walk_at "call builtin:sum") => fresh (ruleH "sum_L" "saams_" "h' tk' t' F' N'" true)

theorem outsideF_len (kind more : Int) : (outsideF kind more).length ≠ 0 ∧ (outsideF kind more).length ≤ 2 := by
  unfold outsideF
  dsimp only
  repeat' split
  all_goals simp

inductive RowJ (ns : List Int) (news : List (Addr × Obj)) (l0 sc : Addr) (i : Nat) (m₁ : Str → Option Value) (news₁ : List (Addr × Obj)) : Prop
  | mk (rvs : List Value) (c : Nat) (nw : List (Addr × Obj)) (e : news₁ = (l0, W.listOf (List.toArray rvs) c) :: (nw ++ news)) (h1 : All2 (PcAt nw) rvs (rowF ((ns.take 16).take i)).1)
    (h2 : m₁ (Str.ofString "inside") = some (.bool (rowF ((ns.take 16).take i)).2)) (h3 : m₁ (Str.ofString "row") = some (.ref l0)) (h4 : m₁ (Str.ofString "script") = some (.ref sc)) (h5 : ∀ p ∈ nw, l0 < p.1) (h6 : rvs.length ≤ 2 * i) : RowJ ns news l0 sc i m₁ news₁
theorem row_spec {R : Result → Shared → Prop} {sc : Addr} {vs : List Value} {ns : List Int} (a : Amb w mg mb mean 2 A A₀ base h₀ env outer L) (F : Fr h₀ L s.heap m) (N : News h₀ L s.heap news)
    (hs : h₀.IsList sc vs.toArray) (hi : IntsAre vs ns) (hlen : ns.length ≤ 63)
    (k : ∀ x t r rvs c nw h' tk', Fr h₀ L h' m → News h₀ L h' ((x, tupO [.ref r, .bool (rowF (ns.take 16)).2, .str (faultS ns) t]) :: (r, W.listOf (List.toArray rvs) c) :: (nw ++ news)) → All2 (PcAt nw) rvs (rowAll ns) →
      (∀ p ∈ nw, r < p.1) → (∀ p ∈ news, p.1 < r) → (∀ p ∈ nw, p.1 < x) → r < x → rvs.length ≤ 40 → R (.ok (.ret (.ref x))) { s with heap := h', toks := tk' }) :
    codeAny (model Challenge.rw_mq0398_01.row.prog w) A (.call (.ref 760) ⟨[.ref sc], []⟩) R s := by
  refine' enter a F N ?ho ?hcd ?hb ?hl ?_ ?c1 ?c2 ?c3 ?c4
  case ho => walk_at "ho"
  case hcd => k_is
  case hb => exact BindsTo.of_eq rfl
  case hl => exact locs rfl
  case c1 => exact rfl
  case c2 => exact rfl
  case c3 => exact rfl
  case c4 => decide
  intro g L' h' FG' Am F' N'
  have hsg : g.IsList sc vs.toArray := hs.at fun o e => FG'.keep _ _ e
  have Am0 := Am
  obtain ⟨B', X', T', hA', hf', hk', hd', hu', hh'⟩ := Am
  (try dsimp only)
  refine no_raise ?_
  refine opaqueQ fun Q9 kQ9 => ?_
  (try k_fold)
  k_steps
  rename_i l0 _ hl0 _ _ D0 ws0 hh0 F0 N0 hI0 _ _ hlt0
  dsimp only
  refine iter_list (vs := ws0.toArray) (news := (l0, W.listOf #[] 0) :: news) (RowJ ns news l0 sc) hh' ⟨_, (N0 _ (.head _)).1, rfl, _, rfl⟩ (fun e => (N0 _ (.head _)).2.1 e.symm) F0 (fun p hp => N0 p (.tail _ hp)) ?_ ?_ ?_ ?_
  · intro p hp
    rcases List.mem_cons.mp hp with rfl | hp
    · exact Nat.ne_of_lt hlt0.1
    · exact Nat.ne_of_lt (allLt_mem hlt0.2 p hp)
  · exact ⟨[], 0, [], rfl, .nil, rfl, rfl, rfl, (fun _ h => nomatch h), Nat.le_refl _⟩
  · rintro I i v m₁ news₁ own h1 tk1 hv ⟨rvs, c, nw, rfl, hrow, hin, hr, hsc, hnw, hrl⟩ hoff hown hfp F₁ N₁
    rw [kn3 hin hr hsc] at F₁
    refine opaqueQ fun Q8 kQ8 => ?_
    have hiw : i < (ns.take 16).length := by
      rw [← hI0.length]
      obtain ⟨q, _⟩ := Array.getElem?_eq_some_iff.mp hv
      simpa using q
    have hi16 : i < 16 := by
      have := List.length_take_le 16 ns
      omega
    obtain ⟨x, t, rfl, hx⟩ : ∃ x t, v = .int x t ∧ (ns.take 16)[i]? = some x := by
      have e : (ns.take 16)[i]? = some (ns.take 16)[i] := List.getElem?_eq_getElem hiw
      obtain ⟨t, ht⟩ := hI0.get i _ e
      rw [List.getElem?_toArray, ht] at hv
      exact ⟨_, t, (Option.some.inj hv).symm, e⟩
    have hsz : rvs.length ≤ 1000 := by omega
    have hne : ∀ p ∈ (nw ++ news) ++ own, p.1 ≠ l0 := by
      intro p hp
      rcases List.mem_append.mp hp with hp | hp
      · rcases List.mem_append.mp hp with hp | hp
        · exact Nat.ne_of_gt (hnw p hp)
        · exact Nat.ne_of_lt (hl0 p hp)
      · exact fun e => hoff _ (.head _) (e ▸ hown p hp)
    simp only [List.cons_append] at N₁
    dsimp only at F₁ N₁ ⊢
    clear hin hr hsc
    (try k_fold)
    k_steps
    · refine by_code (inside_spec Am0 (by k_asm) (by k_asm) ?_)
      intro v1 l1 o1 h2 tk2 F2 N2 hp2 hlt2
      (try k_lt hlt2)
      dsimp only
      (try k_sweep)
      k_steps
      rename Fr _ _ _ _ => F3
      rename News _ _ _ _ => N3
      rename Prod.snd _ = true => hb
      have hst := (rowF_take hx).trans (rowStep_in hb)
      refine kQ8 _ _ ⟨_, _, _, (l0, W.listOf (rvs ++ [v1]).toArray (c + 1)) :: (((l1, o1) :: nw) ++ news), rfl, F3, news_sub N3 ?_, ?_, rvs ++ [v1], c + 1, (l1, o1) :: nw, rfl, ?_, ?_, rfl, rfl, ?_, ?_⟩
      · intro p hp
        simp only [List.cons_append, List.mem_cons, List.mem_append] at hp ⊢
        rcases hp with h | h | (h | h) | h
        · exact .inr (.inl h)
        · exact .inl h
        · exact .inr (.inr (.inl (.inl h)))
        · exact .inr (.inr (.inl (.inr h)))
        · exact .inr (.inr (.inr h))
      · intro p hp
        simp only [List.cons_append, List.mem_cons, List.mem_append] at hp
        rcases hp with h | h | h
        · rw [h]; exact hoff (l0, W.listOf rvs.toArray c) (.head _)
        · rw [h]; exact off_new hfp (N3 _ (.head _)).2.2 fun q hq => allLt_mem hlt2.2 q (List.mem_append_right _ hq)
        · exact hoff p (.tail _ (List.mem_append.mpr h))
      · rw [hst]
        exact (hrow.imp fun _ _ => .next).append (.cons (hp2.mono fun q hq => by rw [List.mem_singleton.mp hq]; exact .head _) .nil)
      · rw [hst]; rfl
      · intro p hp
        rcases List.mem_cons.mp hp with rfl | hp
        · exact hlt2.1
        · exact hnw p hp
      · simp; omega
    · refine by_code (outside_spec Am0 (by k_asm) (by k_asm) ?_)
      intro l1 vs1 nw1 h2 tk2 F2 N2 hp2 hab2 hlt2
      have hl2 := hp2.length
      have hl3 := outsideF_len (x.fmod 16) (x.fdiv 16)
      replace N2 := news_mid N2
      have hne2 := ne_app hab2 hne
      have hlt3 := ltN (hlt2 _ (List.mem_append_right _ (.head _)))
      dsimp only at hlt3
      dsimp only
      (try k_sweep)
      k_steps
      all_goals (
        rename Fr _ _ _ _ => F3
        rename News _ _ _ _ => N3
        rename Prod.snd _ = false => hb
        have hst := (rowF_take hx).trans (rowStep_out hb)
        refine kQ8 _ _ ⟨_, _, _, (l0, W.listOf (rvs ++ vs1).toArray (c + 1)) :: ((nw1 ++ nw) ++ news), rfl, F3, news_sub N3 ?_, ?_, rvs ++ vs1, c + 1, nw1 ++ nw, rfl, ?_, ?_, rfl, rfl, ?_, ?_⟩
        · intro p hp
          simp only [List.cons_append, List.mem_cons, List.mem_append] at hp ⊢
          rcases hp with h | ((h | h) | h) | h
          · exact .inr (.inl h)
          · exact .inr (.inr (.inl h))
          · exact .inr (.inr (.inr (.inl (.inl h))))
          · exact .inr (.inr (.inr (.inl (.inr h))))
          · exact .inr (.inr (.inr (.inr h)))
        · intro p hp
          simp only [List.mem_cons, List.mem_append] at hp
          rcases hp with h | (h | h) | h
          · rw [h]; exact hoff (l0, W.listOf rvs.toArray c) (.head _)
          · exact off_new hfp (N3 p (.tail _ (.tail _ (List.mem_append_left _ h)))).2.2 fun q hq => hab2 p h q (.tail _ (List.mem_append_right _ hq))
          · exact hoff p (.tail _ (List.mem_append.mpr (.inl h)))
          · exact hoff p (.tail _ (List.mem_append.mpr (.inr h)))
        · rw [hst]
          exact (hrow.imp fun _ _ q => q.mono fun _ h => List.mem_append_right _ h).append (hp2.imp fun _ _ q => q.mono fun _ h => List.mem_append_left _ h)
        · rw [hst]
          refine congrArg (fun b => some (Value.bool b)) ?_
          dsimp only
          first
            | (have h8 : 8 ≤ x.fmod 16 := by first | omega | (rename decide (8 ≤ _) = true => hd8; exact of_decide_eq_true hd8)
               simp [h8])
            | (have h8 : ¬ 8 ≤ x.fmod 16 := by first | omega | (rename decide (8 ≤ _) = false => hd8; exact of_decide_eq_false hd8)
               simp [h8])
        · intro p hp
          rcases List.mem_append.mp hp with hp | hp
          · exact hab2 p hp _ (.head _)
          · exact hnw p hp
        · simp; omega)
  · rintro h1 tk1 m1 news1 F1 N1 ⟨rvs, c, nw, rfl, hrow, hin, hr, hsc, hnw, hrl⟩
    have hsz1 : ws0.toArray.size = (ns.take 16).length := by simp [hI0.length]
    rw [hsz1, List.take_length] at hrow hin
    rw [kn3 hin hr hsc] at F1
    have hl16 := List.length_take_le 16 ns
    have hsz : rvs.length ≤ 1000 := by omega
    have hne : ∀ p ∈ nw ++ news, p.1 ≠ l0 := by
      intro p hp
      rcases List.mem_append.mp hp with hp | hp
      · exact Nat.ne_of_gt (hnw p hp)
      · exact Nat.ne_of_lt (hl0 p hp)
    clear hin hr hsc N0 F0
    dsimp only at F1 N1 ⊢
    k_steps
    · have h3 : (ns.take 16).sum.fmod 3 = 1 := by assumption
      have hb : (rowF (ns.take 16)).2 = true := by assumption
      rename _ ∧ _ ∧ _ ∧ AllLt _ _ => hlt
      rename _ ∧ _ ∧ AllLt _ _ => hlt'
      refine kQ9 _ _ ?_
      refine leaveK_ (by assumption) (by assumption) (fun F1 N1 => ?_)
      rw [← fault_esc h3] at N1
      refine k _ _ l0 (rvs ++ [_]) (c + 1) (_ :: nw) _ _ F1 (news_A N1) ?_ ?_ hl0 ?_ hlt.2.2.1 (by simp; omega)
      · rw [rowAll_in h3 hb]
        exact (hrow.imp fun _ _ => .next).append (.cons (.here lit_bs lit_nil lit_nil rfl) .nil)
      · intro p hp
        rcases List.mem_cons.mp hp with rfl | hp
        · exact hlt'.2.1
        · exact hnw p hp
      · intro p hp
        rcases List.mem_cons.mp hp with rfl | hp
        · exact hlt.1
        · exact allLt_mem hlt.2.2.2 p (List.mem_append_left _ hp)
    · have h3 : (ns.take 16).sum.fmod 3 = 1 := by assumption
      have hb : (rowF (ns.take 16)).2 = false := by assumption
      rename _ ∧ _ ∧ _ ∧ AllLt _ _ => hlt
      rename _ ∧ _ ∧ AllLt _ _ => hlt'
      refine kQ9 _ _ ?_
      refine leaveK_ (by assumption) (by assumption) (fun F1 N1 => ?_)
      rw [← fault_esc h3] at N1
      refine k _ _ l0 (rvs ++ [_]) (c + 1) (_ :: nw) _ _ F1 (news_A N1) ?_ ?_ hl0 ?_ hlt.2.2.1 (by simp; omega)
      · rw [rowAll_out h3 hb]
        exact (hrow.imp fun _ _ => .next).append (.cons (.here lit_bs lit_bs lit_nil rfl) .nil)
      · intro p hp
        rcases List.mem_cons.mp hp with rfl | hp
        · exact hlt'.2.1
        · exact hnw p hp
      · intro p hp
        rcases List.mem_cons.mp hp with rfl | hp
        · exact hlt.1
        · exact allLt_mem hlt.2.2.2 p (List.mem_append_left _ hp)
    · have h3 : (ns.take 16).sum.fmod 3 ≠ 1 := by assumption
      have hb : (rowF (ns.take 16)).2 = true := by assumption
      rename _ ∧ _ ∧ AllLt _ _ => hlt
      refine kQ9 _ _ ?_
      refine leaveK_ (by assumption) (by assumption) (fun F1 N1 => ?_)
      rw [← fault_quo h3 hb] at N1
      refine k _ _ l0 rvs c nw _ _ F1 (news_B N1) ?_ hnw hl0 (fun p hp => allLt_mem hlt.2.2 p (List.mem_append_left _ hp)) hlt.2.1 (by omega)
      rw [rowAll_no h3]
      exact hrow
    · have h3 : (ns.take 16).sum.fmod 3 ≠ 1 := by assumption
      have hb : (rowF (ns.take 16)).2 = false := by assumption
      rename _ ∧ _ ∧ AllLt _ _ => hlt
      refine kQ9 _ _ ?_
      refine leaveK_ (by assumption) (by assumption) (fun F1 N1 => ?_)
      rw [← fault_no h3 hb] at N1
      refine k _ _ l0 rvs c nw _ _ F1 (news_B N1) ?_ hnw hl0 (fun p hp => allLt_mem hlt.2.2 p (List.mem_append_left _ hp)) hlt.2.1 (by omega)
      rw [rowAll_no h3]
      exact hrow
end
end Mine
/-! D1 -/
namespace Mine
open PySem PySem.W PySem.Calls PyProof.Rows PySem.Spec

noncomputable abbrev dqO (k : Int) (items : List Value) : Obj := { cls := .type "collections.deque", data := .fields (Value.none :: rawInt k :: items).toArray }

theorem dq_slot_len : Slot "collections.deque" "__len__" "collections.deque.__len__" :=
  .of (owner := "collections.deque") (n := "__len__") (by rw [typeLookup_type, builtinLookup_eq_fast]; kernel_rfl) (by decide +kernel) (by decide +kernel) (by decide +kernel)
    (by first | exact .inl (by decide +kernel) | exact .inr (by decide +kernel)) (by rw [isSubtype_type]; kernel_rfl)
theorem dq_entry_len : entryFor table "collections.deque.__len__" = some Builtin.«collections.deque.__len__» := by first | exact entryFor_of_fast (by kernel_rfl) | exact entryFor_of_tree (by kernel_rfl)
theorem dq_args_len (a : Value) : argsOk "collections.deque.__len__" ⟨[a], []⟩ := by unfold argsOk; kernel_rfl
theorem dq_noBool : typeLookup (.type "collections.deque") "__bool__" = pure none := by rw [typeLookup_type, builtinLookup_eq_fast]; kernel_rfl
theorem dq_slot_append : Slot "collections.deque" "append" "collections.deque.append" :=
  .of (owner := "collections.deque") (n := "append") (by rw [typeLookup_type, builtinLookup_eq_fast]; kernel_rfl) (by decide +kernel) (by decide +kernel) (by decide +kernel)
    (by first | exact .inl (by decide +kernel) | exact .inr (by decide +kernel)) (by rw [isSubtype_type]; kernel_rfl)
theorem dq_entry_append : entryFor table "collections.deque.append" = some Builtin.«collections.deque.append» := by first | exact entryFor_of_fast (by kernel_rfl) | exact entryFor_of_tree (by kernel_rfl)
theorem dq_args_append (a b : Value) : argsOk "collections.deque.append" ⟨[a, b], []⟩ := by unfold argsOk; kernel_rfl
theorem dq_slot_pop : Slot "collections.deque" "pop" "collections.deque.pop" :=
  .of (owner := "collections.deque") (n := "pop") (by rw [typeLookup_type, builtinLookup_eq_fast]; kernel_rfl) (by decide +kernel) (by decide +kernel) (by decide +kernel)
    (by first | exact .inl (by decide +kernel) | exact .inr (by decide +kernel)) (by rw [isSubtype_type]; kernel_rfl)
theorem dq_entry_pop : entryFor table "collections.deque.pop" = some Builtin.«collections.deque.pop» := by first | exact entryFor_of_fast (by kernel_rfl) | exact entryFor_of_tree (by kernel_rfl)
theorem dq_args_pop (a : Value) : argsOk "collections.deque.pop" ⟨[a], []⟩ := by unfold argsOk; kernel_rfl
theorem dq_type_append : typeOf (.builtin "collections.deque.append") = pure (.type "method_descriptor") := by show builtinType _ = _; rw [builtinType_eq_fast]; kernel_rfl
theorem dq_type_pop : typeOf (.builtin "collections.deque.pop") = pure (.type "method_descriptor") := by show builtinType _ = _; rw [builtinType_eq_fast]; kernel_rfl

section
variable {prog : Program} {w : World} {A : Around} {E : Value → Shared → Prop} {s : Shared}

theorem dq_len_body {l : Addr} {k : Int} {items : List Value} {Q : Value → Shared → Prop} (ho : s.heap.get? l = some (dqO k items)) (hfit : (items.length : Int) < 2 ^ 63)
    (h : Q (.int items.length (s.toks + 1)) { s with toks := s.toks + 1 + 1 }) : wpAny (model prog w) A (Builtin.«len» ⟨[.ref l], []⟩) (fun fin s' => ∃ r, fin = .done (.ret r) ∧ Q r s') E s := by
  have hT : s.TypeIs (.ref l) "collections.deque" := ⟨_, ho, rfl⟩
  unfold Builtin.«len»
  refine wpAny_bind (m := oneArg "len" _) (wpAny_pure ?_)
  refine wpAny_bind (m := callSpecial? (.ref l) (Str.ofString "__len__")) (wpAny_callSpecial?_slot (name := Str.ofString "__len__") hT dq_slot_len
    (wpAny_call_entry dq_slot_len hT dq_entry_len ?_ (dq_args_len _)))
  show wpAny _ _ (Builtin.Deque.size (.ref l) >>= fun n => retInt (n : Nat)) _ _ s
  unfold Builtin.Deque.size
  refine wpAny_bind (wpAny_bind (wpAny_fieldsOf ho rfl (wpAny_pure ?_)))
  rw [show (Value.none :: rawInt k :: items).toArray.size - 2 = items.length from by simp]
  refine wpAny_bind (wpAny_mkInt (wpAny_pure ⟨_, rfl, ?_⟩))
  refine wpAny_bind (wpAny_holding (wpAny_pure ?_))
  refine wpAny_bind (wpAny_letGo ?_)
  show wpAny _ _ (if ((items.length : Nat) : Int) < 0 then _ else _) _ _ _
  rw [if_neg (by omega)]
  show wpAny _ _ (if ((items.length : Nat) : Int) ≥ 2 ^ 63 then _ else _) _ _ _
  rw [if_neg (by omega)]
  exact wpAny_bind (wpAny_mkInt (wpAny_pure ⟨_, rfl, h⟩))

theorem dq_truthy {l : Addr} {k : Int} {items : List Value} {Q : Bool → Shared → Prop} (ho : s.heap.get? l = some (dqO k items)) (hfit : (items.length : Int) < 2 ^ 63)
    (h : Q (!items.isEmpty) { s with toks := s.toks + 1 + 1 }) : wpAny (model prog w) A (truthy (.ref l)) Q E s := by
  have hT : s.TypeIs (.ref l) "collections.deque" := ⟨_, ho, rfl⟩
  have hne : ((items.length : Int) != 0) = !items.isEmpty := by
    cases items with
    | nil => rfl
    | cons a r =>
      have h1 : (((a :: r).length : Int) != 0) = true := bne_iff_ne.mpr (by rw [List.length_cons]; omega)
      rw [h1]; rfl
  have key : wpAny (model prog w) A (runValue (.builtin "len" ⟨[.ref l], []⟩)) (fun r s' => r = .int items.length (s.toks + 1) ∧ Q (!items.isEmpty) s') E s := by
    refine wpAny_runValue (codeAny_builtin entry_len ?_)
    rw [Around.under_plainId plain_len _]
    exact wpAny_mono (dq_len_body (Q := fun r s' => r = .int items.length (s.toks + 1) ∧ Q (!items.isEmpty) s') ho hfit ⟨rfl, h⟩)
      (fun fin s' h' => by obtain ⟨r, rfl, hq⟩ := h'; exact hq) fun _ _ e => e
  unfold truthy
  first
    | refine wpAny_bind (wpAny_callSpecial?_none (name := Str.ofString "__bool__") hT dq_noBool ?_)
    | refine wpAny_bind (wpAny_pure (wpAny_bind (wpAny_callSpecial?_none (name := Str.ofString "__bool__") hT dq_noBool ?_)))
  first
    | refine wpAny_bind (wpAny_specialOf (name := Str.ofString "__len__") hT dq_slot_len.lookup ?_)
    | refine wpAny_bind (wpAny_pure (wpAny_bind (wpAny_specialOf (name := Str.ofString "__len__") hT dq_slot_len.lookup ?_)))
  first
    | exact wpAny_bind (wpAny_mono key (fun r s' h' => by obtain ⟨rfl, hq⟩ := h'; exact wpAny_pure (hne ▸ hq)) fun _ _ e => e)
    | exact wpAny_bind (wpAny_pure (wpAny_bind (wpAny_mono key (fun r s' h' => by obtain ⟨rfl, hq⟩ := h'; exact wpAny_pure (hne ▸ hq)) fun _ _ e => e)))
end

section
variable {prog : Program} {w : World} {A : Around} {E : Value → Shared → Prop} {s : Shared} {h₀ : Heap} {L D : Addr} {m : Str → Option Value} {news news' : List (Addr × Obj)} {k : Int} {items : List Value} {x : Value} {Q : Value → Shared → Prop}

theorem dq_change {a : Addr} {f : Array Value → Array Value} {its' : List Value} {Q : Unit → Shared → Prop} (ho : s.heap.get? a = some (dqO k items)) (e : f items.toArray = its'.toArray) (hz : its'.length ≤ 1000)
    (h : ∀ h', Heap.SameBut a s.heap h' → h'.get? a = some (dqO (k + 1) its') → Q () { s with heap := h' }) : wpAny (model prog w) A (Builtin.Deque.change (.ref a) f) Q E s := by
  unfold Builtin.Deque.change
  unfold Builtin.Deque.state
  refine wpAny_bind (wpAny_bind (wpAny_field ho rfl rfl (wpAny_pure ?_)))
  have e1 : (Value.none :: rawInt k :: items).toArray.extract 2 (Value.none :: rawInt k :: items).toArray.size = items.toArray := by simp
  have e2 : (#[(Value.none :: rawInt k :: items).toArray.getD 0 Value.none, rawInt (if true = true then k + 1 else k)] ++ f ((Value.none :: rawInt k :: items).toArray.extract 2 (Value.none :: rawInt k :: items).toArray.size)) = (Value.none :: rawInt (k + 1) :: its').toArray := by
    rw [e1, e]; simp
  have hf : Obj.mapFields (fun vs => #[vs.getD 0 .none, rawInt (if true = true then k + 1 else k)] ++ f (vs.extract 2 vs.size)) (dqO k items) = dqO (k + 1) its' := by
    exact congrArg (fun z => Obj.mk (.type "collections.deque") none (.fields z) #[]) e2
  refine wpAny_updateFields ho rfl (h _ (Heap.SameBut.update ..) ?_) ?_
  · rw [Heap.get?_update_self _ ho (by rw [hf]; rfl), hf]
  · rw [e2]; simp [sizeLine]; omega
theorem dq_append (F : Fr h₀ L s.heap m) (N : News h₀ L s.heap news) (U : Upd D (dqO k items) (dqO (k + 1) (items ++ [x])) news news') (hz : items.length ≤ 900)
    (h : ∀ h', Fr h₀ L h' m → News h₀ L h' news' → Q .none { s with heap := h' }) : wpAny (model prog w) A (call (.builtin "collections.deque.append") [.ref D, x]) Q E s := by
  obtain ⟨pre, post, rfl, rfl, a, b⟩ := U.split
  have z := N (D, dqO k items) (List.mem_append.mpr (.inr (.head _)))
  refine wpAny_call_entry dq_slot_append ⟨_, z.1, rfl⟩ dq_entry_append ?_ (dq_args_append _ _)
  show wpAny _ _ (Builtin.Deque.pushRight (.ref D) x >>= fun _ => ret .none) _ _ s
  refine wpAny_bind ?_
  unfold Builtin.Deque.pushRight
  refine wpAny_bind (dq_change z.1 (its' := items ++ [x]) (by simp) (by simp; omega) fun h' hs ho' => ?_)
  unfold Builtin.Deque.maxlen
  refine wpAny_bind (wpAny_bind (wpAny_field ho' rfl rfl (wpAny_pure ?_)))
  exact wpAny_pure (wpAny_pure ⟨.none, rfl, h h' (F.change hs z.2.1 z.2.2) (news_set N a b hs ho')⟩)
theorem dq_pop (F : Fr h₀ L s.heap m) (N : News h₀ L s.heap news) (U : Upd D (dqO k (items ++ [x])) (dqO (k + 1) items) news news') (hz : items.length ≤ 900)
    (h : ∀ h', Fr h₀ L h' m → News h₀ L h' news' → Q x { s with heap := h' }) : wpAny (model prog w) A (call (.builtin "collections.deque.pop") [.ref D]) Q E s := by
  obtain ⟨pre, post, rfl, rfl, a, b⟩ := U.split
  have z := N (D, dqO k (items ++ [x])) (List.mem_append.mpr (.inr (.head _)))
  refine wpAny_call_entry dq_slot_pop ⟨_, z.1, rfl⟩ dq_entry_pop ?_ (dq_args_pop _)
  unfold Builtin.«collections.deque.pop»
  refine wpAny_bind (m := selfOnly "deque.pop" _) (wpAny_pure ?_)
  unfold Builtin.Deque.items
  refine wpAny_bind (wpAny_bind (wpAny_fieldsOf z.1 rfl (wpAny_pure ?_)))
  have e1 : ∀ l : List Value, (Value.none :: rawInt k :: l).toArray.extract 2 (Value.none :: rawInt k :: l).toArray.size = l.toArray := fun l => by simp
  rw [e1 (items ++ [x]), show (items ++ [x]).toArray.back? = some x from by simp]
  refine wpAny_bind (dq_change z.1 (its' := items) (by simp) (by omega) fun h' hs ho' => ?_)
  exact wpAny_pure ⟨x, rfl, h h' (F.change hs z.2.1 z.2.2) (news_set N a b hs ho')⟩
end

theorem dq_plain : PlainAttrs "collections.deque" :=
  ⟨⟨"collections.deque.__getattribute__", by rw [typeLookup_type, builtinLookup_eq_fast]; kernel_rfl, by decide +kernel⟩, by rw [typeLookup_type, builtinLookup_eq_fast]; kernel_rfl⟩
section
variable {prog : Program} {w : World} {A : Around} {E : Value → Shared → Prop} {s : Shared} {h₀ : Heap} {L D : Addr} {news : List (Addr × Obj)} {k : Int} {items : List Value}
theorem dq_getAppend {pl : Sem Bool} {Q : Value × List Value → Shared → Prop} (N : News h₀ L s.heap news) (hm : (D, dqO k items) ∈ news) (h : Q (.builtin "collections.deque.append", [.ref D]) s) :
    wpAny (model prog w) A (getMethod (.ref D) (Str.ofString "append") pl) Q E s :=
  getMethod_builtin ⟨_, (N _ hm).1, rfl⟩ dq_plain dq_slot_append dq_type_append (fun a e => by cases e; exact ⟨_, (N _ hm).1, rfl⟩) h
theorem dq_getPop {pl : Sem Bool} {Q : Value × List Value → Shared → Prop} (N : News h₀ L s.heap news) (hm : (D, dqO k items) ∈ news) (h : Q (.builtin "collections.deque.pop", [.ref D]) s) :
    wpAny (model prog w) A (getMethod (.ref D) (Str.ofString "pop") pl) Q E s :=
  getMethod_builtin ⟨_, (N _ hm).1, rfl⟩ dq_plain dq_slot_pop dq_type_pop (fun a e => by cases e; exact ⟨_, (N _ hm).1, rfl⟩) h
theorem dq_truthy0 {Q : Bool → Shared → Prop} (N : News h₀ L s.heap news) (hm : (D, dqO k []) ∈ news) (h : Q false { s with toks := s.toks + 1 + 1 }) : wpAny (model prog w) A (truthy (.ref D)) Q E s :=
  dq_truthy (N _ hm).1 (by decide) h
theorem dq_truthy1 {v : Value} {Q : Bool → Shared → Prop} (N : News h₀ L s.heap news) (hm : (D, dqO k [v]) ∈ news) (h : Q true { s with toks := s.toks + 1 + 1 }) : wpAny (model prog w) A (truthy (.ref D)) Q E s :=
  dq_truthy (N _ hm).1 (by show ((1 : Nat) : Int) < 2 ^ 63; decide) h
end
end Mine
/-! L0 -/
namespace Mine
open PySem PySem.W PySem.Calls PyProof.Rows PySem.Spec

theorem getL_put_eq {name : Str} {hsh : Int} {tk : Tok} {v : Value} : ∀ {es : List DictEntry}, getL name (putL name hsh (.str name tk) v es) = some (some v)
  | [] => by simp [getL, putL, Value.isStr]
  | e :: r => by
    have ih := getL_put_eq (name := name) (hsh := hsh) (tk := tk) (v := v) (es := r)
    unfold putL
    by_cases h : e.key.isStr name = true
    · rw [if_pos h]; simp [getL, List.find?_cons, h]
    · rw [if_neg h]
      unfold getL at ih ⊢
      simp only [List.find?_cons, h]
      cases hq : (putL name hsh (.str name tk) v r).find? (fun x => x.key.isStr name) with
      | some e' => rw [hq] at ih; simpa using ih
      | none =>
        rw [hq] at ih
        dsimp only at ih
        split at ih <;> cases ih
theorem any_put {name : Str} {hsh : Int} {tk : Tok} {v : Value} : ∀ {es : List DictEntry}, (putL name hsh (.str name tk) v es).any (·.refKey) = es.any (·.refKey)
  | [] => rfl
  | e :: r => by
    unfold putL
    by_cases h : e.key.isStr name = true
    · rw [if_pos h]; rfl
    · rw [if_neg h, List.any_cons, List.any_cons, any_put]
theorem isStr_ne {k : Value} {a b : Str} (h : k.isStr a = true) (hne : b ≠ a) : k.isStr b = false := by
  cases k with
  | str s t =>
    have e : s = a := by simpa [Value.isStr] using h
    subst e
    simpa [Value.isStr] using fun e : s = b => hne e.symm
  | _ => rfl
theorem find_put {nm name : Str} (hne : nm ≠ name) {hsh : Int} {tk : Tok} {v : Value} : ∀ {es : List DictEntry}, ((putL name hsh (.str name tk) v es).find? (fun x => x.key.isStr nm)).map (·.val) = (es.find? (fun x => x.key.isStr nm)).map (·.val)
  | [] => by simp [putL, List.find?_cons, Value.isStr, Ne.symm hne]
  | e :: r => by
    unfold putL
    by_cases h : e.key.isStr name = true
    · rw [if_pos h]
      simp only [List.find?_cons, isStr_ne h hne]
    · rw [if_neg h]
      simp only [List.find?_cons]
      cases e.key.isStr nm with
      | true => rfl
      | false => exact find_put hne
theorem getL_put_ne {nm name : Str} (hne : nm ≠ name) {hsh : Int} {tk : Tok} {v : Value} {es : List DictEntry} : getL nm (putL name hsh (.str name tk) v es) = getL nm es := by
  have h1 := find_put hne (hsh := hsh) (tk := tk) (v := v) (es := es)
  have h2 := any_put (name := name) (hsh := hsh) (tk := tk) (v := v) (es := es)
  unfold getL
  rw [h2]
  cases ha : (putL name hsh (.str name tk) v es).find? (fun x => x.key.isStr nm) with
  | some a =>
    cases hb : es.find? (fun x => x.key.isStr nm) with
    | some b => rw [ha, hb] at h1; simp at h1; simp [h1]
    | none => rw [ha, hb] at h1; simp at h1
  | none =>
    cases hb : es.find? (fun x => x.key.isStr nm) with
    | some b => rw [ha, hb] at h1; simp at h1
    | none => rfl
theorem putL_len {name : Str} {hsh : Int} {k v : Value} : ∀ {es : List DictEntry}, (putL name hsh k v es).length ≤ es.length + 1
  | [] => by simp [putL]
  | e :: r => by
    unfold putL
    split
    · simp
    · simp only [List.length_cons]; have := putL_len (name := name) (hsh := hsh) (k := k) (v := v) (es := r); omega
theorem putL_same {name : Str} {hsh : Int} {k v v0 : Value} : ∀ {es : List DictEntry}, getL name es = some (some v0) → (putL name hsh k v es).length = es.length
  | [], h => by simp [getL] at h
  | e :: r, h => by
    unfold putL
    by_cases q : e.key.isStr name = true
    · rw [if_pos q]; rfl
    · have h' : getL name r = some (some v0) := by
        unfold getL at h ⊢
        simp only [List.find?_cons, q] at h
        cases hq : r.find? (fun x => x.key.isStr name) with
        | some e' => rw [hq] at h; exact h
        | none =>
          rw [hq] at h
          dsimp only at h
          split at h <;> cases h
      rw [if_neg q, List.length_cons, List.length_cons, putL_same h']
theorem isSome_of {nm : Str} {es : List DictEntry} {x : Option Value} (h : getL nm es = some x) : (getL nm es).isSome = true := by rw [h]; rfl

section
variable {w : World} {A : Around} {E : Value → Shared → Prop} {s : Shared} {x C dx L : Addr} {h₀ : Heap} {m : Str → Option Value} {news news' : List (Addr × Obj)} {es : List DictEntry} {n : Nat} {name : Str} {v : Value} {K : Frag} {o : Option Value}
theorem set_A {prog : Program} {ox : Obj} {v0 : Value} {Q : Unit → Shared → Prop} (F : Fr h₀ L s.heap m) (X₀ : K.In h₀) (N : News h₀ L s.heap news) (I : InstAt s.heap x ox C (some (dictOf es n))) (hd : ox.dict = some dx)
    (hs : findIn K (.ref C) "__setattr__" = some (some (.builtin "object.__setattr__"))) (hp : plainOver K C = true) (ht : takerIn K C name = some none) (hh : hasDictIn K C = true) (hl : getL name es = some (some v0))
    (U : Upd dx (dictOf es n) (dictOf (putL name (PyData.keyHash w.params name) (.str name (s.toks + 1)) v es) (putN name es n)) news news') (hz : es.length ≤ 900)
    (h : ∀ h', Fr h₀ L h' m → News h₀ L h' news' → (putL name (PyData.keyHash w.params name) (.str name (s.toks + 1)) v es).length = es.length → Q () { s with heap := h', toks := s.toks + 2 }) :
    wpAny (model prog w) A (setAttr (.ref x) name v) Q E s :=
  set_dict F X₀ N I hd hs hp ht hh (isSome_of hl) rfl U (by rw [putL_same hl]; omega) fun h' F' N' => h h' F' N' (putL_same hl)
theorem set_N {prog : Program} {ox : Obj} {Q : Unit → Shared → Prop} (F : Fr h₀ L s.heap m) (X₀ : K.In h₀) (N : News h₀ L s.heap news) (I : InstAt s.heap x ox C (some (dictOf es n))) (hd : ox.dict = some dx)
    (hs : findIn K (.ref C) "__setattr__" = some (some (.builtin "object.__setattr__"))) (hp : plainOver K C = true) (ht : takerIn K C name = some none) (hh : hasDictIn K C = true) (hl : getL name es = some none)
    (U : Upd dx (dictOf es n) (dictOf (putL name (PyData.keyHash w.params name) (.str name (s.toks + 1)) v es) (putN name es n)) news news') (hz : es.length ≤ 900)
    (h : ∀ h', Fr h₀ L h' m → News h₀ L h' news' → (putL name (PyData.keyHash w.params name) (.str name (s.toks + 1)) v es).length ≤ es.length + 1 → Q () { s with heap := h', toks := s.toks + 2 }) :
    wpAny (model prog w) A (setAttr (.ref x) name v) Q E s :=
  set_dict F X₀ N I hd hs hp ht hh (isSome_of hl) rfl U (by have := putL_len (name := name) (hsh := PyData.keyHash w.params name) (k := .str name (s.toks + 1)) (v := v) (es := es); omega) fun h' F' N' => h h' F' N' putL_len
end

theorem slice_at {tx : List Nat} {pos : Nat} {c : Nat} {u : Int} (h : tx[pos]? = some c) (hu : u = (pos : Int) + 1) : Txt.slice (S tx) (some (pos : Int)) (some u) = S [c] := by
  subst hu
  obtain ⟨hlt, he⟩ := List.getElem?_eq_some_iff.mp h
  have := slice_closes (x := S tx) (i := (pos : Int)) (j := (pos : Int) + 1) ⟨by omega, by omega, by show _ ≤ ((tx.length : Nat) : Int); omega⟩
  rw [eq_of_beq this]
  have e1 : ((pos : Int) + 1 - pos).toNat = 1 := by omega
  have e2 : (tx.drop pos).take 1 = [c] := by
    rw [List.drop_eq_getElem_cons hlt, he]; rfl
  show Str.mk (((tx.drop ((pos : Int)).toNat).take ((pos : Int) + 1 - pos).toNat).toArray) = _
  rw [e1, Int.toNat_natCast, e2]
end Mine
/-! FU -/
namespace Mine
open PySem PySem.W PySem.Calls PyProof.Rows PySem.Spec
/-- an object's dict, told by what was stored -/
structure Full (es : List DictEntry) (l : List (Str × Value)) : Prop where
  len : es.length ≤ l.length
  get : ∀ nm, getL nm es = some (l.lookup nm)
theorem Full.nil : Full [] [] := ⟨Nat.le_refl _, fun _ => rfl⟩
theorem Full.put {es : List DictEntry} {l : List (Str × Value)} {name : Str} {hsh : Int} {tk : Tok} {v : Value} (D : Full es l) : Full (putL name hsh (.str name tk) v es) ((name, v) :: l) where
  len := Nat.le_trans putL_len (by have := D.len; simp; exact this)
  get nm := by
    by_cases h : nm = name
    · subst h
      rw [getL_put_eq, List.lookup_cons, beq_self_eq_true]
    · rw [getL_put_ne h, D.get, List.lookup_cons, beq_eq_false_iff_ne.mpr h]
theorem upd_of {d : Addr} {o o2 : Obj} : ∀ {l : List (Addr × Obj)} {g : Obj → List (Addr × Obj)}, UpdF d o l g → Upd d o o2 l (g o2)
  | _, _, .head h => .head h
  | _, _, .tail h r => .tail h (upd_of r)
section
variable {w : World} {A : Around} {E : Value → Shared → Prop} {x C dx L : Addr} {h₀ : Heap} {m : Str → Option Value} {news : List (Addr × Obj)} {es : List DictEntry} {n : Nat} {name : Str} {v : Value} {K : Frag} {l : List (Str × Value)}
theorem set_F {prog : Program} {h : Heap} {g : Array GenState} {d : Drawn} {tk : Nat} {os : OsState} {ox : Obj} {o' : Obj → List (Addr × Obj)} {Q : Unit → Shared → Prop} (F : Fr h₀ L h m) (X₀ : K.In h₀) (N : News h₀ L h news) (I : InstAt h x ox C (some (dictOf es n))) (hd : ox.dict = some dx)
    (hs : findIn K (.ref C) "__setattr__" = some (some (.builtin "object.__setattr__"))) (hp : plainOver K C = true) (ht : takerIn K C name = some none) (hh : hasDictIn K C = true) (D : Full es l) (U : UpdF dx (dictOf es n) news o') (hz : l.length ≤ 500)
    (k : ∀ h' es' n' tk', Fr h₀ L h' m → News h₀ L h' (o' (dictOf es' n')) → Full es' ((name, v) :: l) → Q () ⟨h', g, d, tk', os⟩) :
    wpAny (model prog w) A (setAttr (.ref x) name v) Q E ⟨h, g, d, tk, os⟩ :=
  set_dict (s := ⟨h, g, d, tk, os⟩) F X₀ N I hd hs hp ht hh (by rw [D.get]; rfl) rfl (upd_of U) (Nat.le_trans putL_len (by have h2 := D.len; omega)) fun h' F' N' => k h' _ _ _ F' N' D.put
theorem get_F {prog : Program} {expr : Bool} {h : Heap} {g : Array GenState} {d : Drawn} {tk : Nat} {os : OsState} {ox : Obj} {Q : Value → Shared → Prop} {attr : Option Value} (F : Fr h₀ L h m) (X₀ : K.In h₀) (I : InstAt h x ox C (some (dictOf es n))) (hg : plainGet K C name = true) (hh : hasDictIn K C = true)
    (ha : findIn K (.ref C) name = some attr) (hn : noGet K attr = true) (D : Full es l) (hl : l.lookup name = some v) (hv : handedIn v = true) (k : ∀ tk', Q v ⟨h, g, d, tk', os⟩) :
    wpAny (model prog w) A (getAttr (.ref x) name expr) Q E ⟨h, g, d, tk, os⟩ :=
  get_own (s := ⟨h, g, d, tk, os⟩) F X₀ I hg hh ha hn ((D.get name).trans (congrArg some hl)) hv (k _)
end
end Mine
/-! L1 -/
namespace Mine
open PySem PySem.W PySem.Calls PyProof.Rows PySem.Spec
theorem zz_L1 {P : Nat → Prop} (h : ∃ x, P x) : ∃ x, P x := by first | (w_top off; walk1; fail) | exact h
theorem fill_l1 : ∀ (w : World) (h : Heap), (Mine.hd.heap_39 w.params).In h → PySem.Challenge.rw_mq0398_01.row.prog = PySem.Challenge.rw_mq0398_01.row.prog := by
  k_fill
  intros; rfl
section
variable {w : World} {mg mb : Str → Option Value} {mean : ExcName → Option Value} {n : Nat} {A A₀ : Around} {base h₀ : Heap} {env : Env} {outer : List Env} {L : Addr} {s : Shared} {m : Str → Option Value} {frz : List (Addr × Obj)}

local macro_rules | `(tactic| walk_at "lx") => fresh (onlx false)
local macro_rules | `(tactic| walk_at "getAttr ref") => fresh (ruleD "get_own" "aaniiiixh_" "" false)
local macro_rules | `(tactic| walk_at "getMethod ref") => fresh (ruleD "method_inst" "aaniiix_" "" false)
local macro_rules | `(tactic| walk_at "setAttr ref") => fresh (ruleD "set_A" "aaanriiiixuo_" "h' F' N' hl'" true)
local macro_rules | `(tactic| walk_at "call ref") => fresh (callAt "58")
local macro_rules | `(tactic| walk_at "call ref") => fresh (callAt "376")

theorem index_spec {R : Result → Shared → Prop} {what : Str} {i : Int} {t1 t2 : Tok} {news : List (Addr × Obj)} (a : Amb w mg mb mean 1 A A₀ base h₀ env outer L) (F : Fr h₀ L s.heap m) (N : News h₀ L s.heap news) (h0 : 0 ≤ i) (h1 : i ≤ 1000000)
    (k : ∀ t' h' tk', Fr h₀ L h' m → News h₀ L h' news → R (.ok (.ret (.int i t'))) { s with heap := h', toks := tk' }) :
    codeAny (model Challenge.rw_mq0398_01.row.prog w) A (.call (.ref 58) ⟨[.int i t1, .str what t2], []⟩) R s := by
  refine' enter a F N ?ho ?hcd ?hb ?hl ?_ ?c1 ?c2 ?c3 ?c4
  case ho => walk_at "ho"
  case hcd => k_is
  case hb => exact BindsTo.of_eq rfl
  case hl => exact locs rfl
  case c1 => exact rfl
  case c2 => exact rfl
  case c3 => exact rfl
  case c4 => decide
  intro g L' h' FG' Am F' N'
  have Am0 := Am
  obtain ⟨B', X', T', hA', hf', hk', hd', hu', hh'⟩ := Am
  (try dsimp only)
  refine no_raise ?_
  (try k_fold)
  k_steps
  exact leaveK_ (by assumption) (by assumption) (fun F1 N1 => k _ _ _ F1 N1)
theorem check_spec {R : Result → Shared → Prop} {io dio : Addr} {es : List DictEntry} {ne : Nat} {text : Str} {tb : Tok} (a : Amb w mg mb mean 1 A A₀ base h₀ env outer L) (F : Fr h₀ L s.heap m) (N : News h₀ L s.heap ((io, instObj 592 dio) :: (dio, dictOf es ne) :: frz))
    (hbuf : getL (Str.ofString "_StringIO__buf") es = some (some (.str text tb)))
    (k : ∀ h' tk', Fr h₀ L h' m → News h₀ L h' ((io, instObj 592 dio) :: (dio, dictOf es ne) :: frz) → R (.ok (.ret .none)) { s with heap := h', toks := tk' }) :
    codeAny (model Challenge.rw_mq0398_01.row.prog w) A (.call (.ref 376) ⟨[.ref io], []⟩) R s := by
  refine' enter a F N ?ho ?hcd ?hb ?hl ?_ ?c1 ?c2 ?c3 ?c4
  case ho => walk_at "ho"
  case hcd => k_is
  case hb => exact BindsTo.of_eq rfl
  case hl => exact locs rfl
  case c1 => exact rfl
  case c2 => exact rfl
  case c3 => exact rfl
  case c4 => decide
  intro g L' h' FG' Am F' N'
  have Am0 := Am
  obtain ⟨B', X', T', hA', hf', hk', hd', hu', hh'⟩ := Am
  (try dsimp only)
  refine no_raise ?_
  (try k_fold)
  k_steps
  exact leaveK_ (by assumption) (by assumption) (fun F1 N1 => k _ _ F1 N1)

theorem read_spec {R : Result → Shared → Prop} {io dio : Addr} {es : List DictEntry} {ne : Nat} {tx : List Nat} {tb tp t1 : Tok} {pos : Nat} (htx : (S tx).length ≤ 1000) (hps : pos ≤ (S tx).length) (a : Amb w mg mb mean 2 A A₀ base h₀ env outer L) (F : Fr h₀ L s.heap m) (N : News h₀ L s.heap ((io, instObj 592 dio) :: (dio, dictOf es ne) :: frz))
    (hlt : dio < io) (hfz : ∀ p ∈ frz, p.1 ≠ dio) (hz : es.length ≤ 800)
    (hbuf : getL (Str.ofString "_StringIO__buf") es = some (some (.str (S tx) tb))) (hpos : getL (Str.ofString "_StringIO__pos") es = some (some (.int pos tp)))
    (hno : getL (Str.ofString "_StringIO__check") es = some none)
    (k0 : ∀ t' h' tk', tx[pos]? = none → Fr h₀ L h' m → News h₀ L h' ((io, instObj 592 dio) :: (dio, dictOf es ne) :: frz) → R (.ok (.ret (.str (S []) t'))) { s with heap := h', toks := tk' })
    (k1 : ∀ c t' es' ne' t2 h' tk', tx[pos]? = some c → Fr h₀ L h' m → News h₀ L h' ((io, instObj 592 dio) :: (dio, dictOf es' ne') :: frz) → es'.length = es.length →
      getL (Str.ofString "_StringIO__buf") es' = some (some (.str (S tx) tb)) → getL (Str.ofString "_StringIO__pos") es' = some (some (.int (pos + 1 : Nat) t2)) → getL (Str.ofString "_StringIO__check") es' = some none →
      getL (Str.ofString "read") es' = getL (Str.ofString "read") es → R (.ok (.ret (.str (S [c]) t'))) { s with heap := h', toks := tk' }) :
    codeAny (model Challenge.rw_mq0398_01.row.prog w) A (.call (.ref 538) ⟨[.ref io, .int 1 t1], []⟩) R s := by
  replace hlt := ltN hlt
  refine' enter a F N ?ho ?hcd ?hb ?hl ?_ ?c1 ?c2 ?c3 ?c4
  case ho => walk_at "ho"
  case hcd => k_is
  case hb => exact binds_K (a.X.keeps F.keep) rfl (by k_is) rfl rfl rfl
  case hl => exact locs rfl
  case c1 => exact rfl
  case c2 => exact rfl
  case c3 => exact rfl
  case c4 => decide
  intro g L' h' FG' Am F' N'
  have Am0 := Am
  obtain ⟨B', X', T', hA', hf', hk', hd', hu', hh'⟩ := Am
  (try dsimp only)
  refine no_raise ?_
  (try k_fold)
  k_steps
  refine by_code (index_spec Am0 (by k_asm) (by k_asm) (by decide) (by decide) ?_)
  intro t2 h2 tk2 F2 N2
  dsimp only
  (try k_sweep)
  k_steps
  refine by_code (check_spec Am0 (by k_asm) (by k_asm) hbuf ?_)
  intro h3 tk3 F3 N3
  dsimp only
  (try k_sweep)
  k_steps
  · rename ((S tx).length : Int) ≤ _ => hle
    exact leaveK_ (by assumption) (by assumption) (fun F1 N1 => lit_nil ▸ k0 _ _ _ (List.getElem?_eq_none (by have : (S tx).length = tx.length := by simp [Str.length]
                                                                                                              omega)) F1 N1)
  · obtain ⟨c, hc⟩ : ∃ c, tx[pos]? = some c := ⟨_, List.getElem?_eq_getElem (by have : (S tx).length = tx.length := by simp [Str.length]
                                                                                omega)⟩
    rw [slice_at hc rfl]
    exact leaveK_ (by assumption) (by assumption) (fun F1 N1 => k1 c _ _ _ _ _ _ hc F1 N1 (by assumption) (by walk_at "lx") getL_put_eq (by walk_at "lx") (getL_put_ne (by decide +kernel)))
  · obtain ⟨c, hc⟩ : ∃ c, tx[pos]? = some c := ⟨_, List.getElem?_eq_getElem (by have : (S tx).length = tx.length := by simp [Str.length]
                                                                                omega)⟩
    have hend : ((S tx).length : Int) = ((pos + 1 : Nat) : Int) := by omega
    rw [slice_at hc (by omega)]
    simp only [hend] at *
    exact leaveK_ (by assumption) (by assumption) (fun F1 N1 => k1 c _ _ _ _ _ _ hc F1 N1 (by assumption) (by walk_at "lx") getL_put_eq (by walk_at "lx") (getL_put_ne (by decide +kernel)))
end
end Mine
/-! R1 -/
namespace Mine
open PySem PySem.W PySem.Calls PyProof.Rows PySem.Spec
theorem zz_R1 {P : Nat → Prop} (h : ∃ x, P x) : ∃ x, P x := by first | (w_top off; walk1; fail) | exact h
theorem fill_r1 : ∀ (w : World) (h : Heap), (Mine.hd.heap_39 w.params).In h → PySem.Challenge.rw_mq0398_01.row.prog = PySem.Challenge.rw_mq0398_01.row.prog := by
  k_fill
  intros; rfl
section
variable {w : World} {mg mb : Str → Option Value} {mean : ExcName → Option Value} {n : Nat} {A A₀ : Around} {base h₀ : Heap} {env : Env} {outer : List Env} {L : Addr} {s : Shared} {m : Str → Option Value} {news : List (Addr × Obj)}

local macro_rules | `(tactic| walk_at "lx") => fresh (onlx false)
local macro_rules | `(tactic| walk_at "getAttr ref") => fresh (ruleD "get_own" "aaniiiixh_" "" false)

theorem Amb.in1 (a : Amb w mg mb mean (n + 1) A A₀ base h₀ env outer L) : Amb w mg mb mean n A.in1 A₀ base h₀ env outer L :=
  { B := a.B, X := a.X, T := a.T, hA := a.hA, hf := a.hf, hk := a.hk, hd := by have := a.hd; show A.depth + n < 999; omega, hu := by have := a.hu; show A.units + 1 + 20 * n < 9900; omega, hh := a.hh }

theorem pun_spec {R : Result → Shared → Prop} {x dx : Addr} {es : List DictEntry} {ne : Nat} {pun : Str} {t : Tok} (a : Amb w mg mb mean 1 A A₀ base h₀ env outer L) (F : Fr h₀ L s.heap m) (N : News h₀ L s.heap ((x, instObj 727 dx) :: (dx, dictOf es ne) :: news))
    (hp : getL (Str.ofString "_punctuation_chars") es = some (some (.str pun t)))
    (k : ∀ h' tk', Fr h₀ L h' m → News h₀ L h' ((x, instObj 727 dx) :: (dx, dictOf es ne) :: news) → R (.ok (.ret (.str pun t))) { s with heap := h', toks := tk' }) :
    codeAny (model Challenge.rw_mq0398_01.row.prog w) A (.call (.ref 658) ⟨[.ref x], []⟩) R s := by
  refine' enter a F N ?ho ?hcd ?hb ?hl ?_ ?c1 ?c2 ?c3 ?c4
  case ho => walk_at "ho"
  case hcd => k_is
  case hb => exact BindsTo.of_eq rfl
  case hl => exact locs rfl
  case c1 => exact rfl
  case c2 => exact rfl
  case c3 => exact rfl
  case c4 => decide
  intro g L' h' FG' Am F' N'
  have Am0 := Am
  obtain ⟨B', X', T', hA', hf', hk', hd', hu', hh'⟩ := Am
  (try dsimp only)
  refine no_raise ?_
  (try k_fold)
  k_steps
  exact leaveK_ (by assumption) (by assumption) (fun F1 N1 => k _ _ F1 N1)

theorem pun_get {E : Value → Shared → Prop} {Q : Value → Shared → Prop} {expr : Bool} {x dx : Addr} {es : List DictEntry} {ne : Nat} {pun : Str} {t : Tok} (a : Amb w mg mb mean 2 A A₀ base h₀ env outer L) (F : Fr h₀ L s.heap m) (N : News h₀ L s.heap ((x, instObj 727 dx) :: (dx, dictOf es ne) :: news))
    (hp : getL (Str.ofString "_punctuation_chars") es = some (some (.str pun t)))
    (k : ∀ h' tk', Fr h₀ L h' m → News h₀ L h' ((x, instObj 727 dx) :: (dx, dictOf es ne) :: news) → Q (.str pun t) { s with heap := h', toks := tk' }) :
    wpAny (model Challenge.rw_mq0398_01.row.prog w) A (getAttr (.ref x) (Str.ofString "punctuation_chars") expr) Q E s := by
  refine' get_prop (K := Mine.hd.heap_39 w.params) F a.X (InstAt.of_news N (.head _) (.tail _ (.head _))) ?k4 ?k5 ?k6 ?k7 ?k8 ?k9 ?_
  case k4 => k_is
  case k5 => k_is
  case k6 => k_is
  case k7 => k_is
  case k8 => k_is
  case k9 => k_is
  exact pun_spec (s := { s with toks := s.toks + 1 }) a.in1 F N hp fun h' tk' F' N' => handed_on rfl (k h' tk' F' N')
end
end Mine
/-! L2 -/
namespace Mine
open PySem PySem.W PySem.Calls PyProof.Rows PySem.Spec
theorem fill_l2 : ∀ (w : World) (h : Heap), (Mine.hd.heap_39 w.params).In h → PySem.Challenge.rw_mq0398_01.row.prog = PySem.Challenge.rw_mq0398_01.row.prog := by
  k_fill
  intros; rfl

inductive Sta where
  | no | sp | a | c | q | esc
  deriving DecidableEq
noncomputable def Sta.val (t : Tok) : Sta → Value
  | .no => .none
  | .sp => .str (S [32]) t
  | .a => .str (S [97]) t
  | .c => .str (S [99]) t
  | .q => .str (S [34]) t
  | .esc => .str (S [92]) t

/-- what stays as it is while a lexer reads -/
structure LC where
  w : World
  g : Heap
  L : Addr
  s0 : Shared
  lx : Bool
  x : Addr
  dx : Addr
  io : Addr
  dio : Addr
  pc : Addr
  pb : Addr
  fs : Addr
  frz : List (Addr × Obj)
  tx : List Nat

noncomputable def wcS : List Nat := [97, 98, 99, 100, 102, 101, 103, 104, 105, 106, 107, 108, 109, 110, 111, 112, 113, 114, 115, 116, 117, 118, 119, 120, 121, 122, 65, 66, 67, 68, 69, 70, 71, 72, 73, 74, 75, 76, 77, 78, 79, 80, 81, 82, 83, 84, 85, 86, 87, 88, 89, 90, 48, 49, 50, 51, 52, 53, 54, 55, 56, 57, 95, 223, 224, 225, 226, 227, 228, 229, 230, 231, 232, 233, 234, 235, 236, 237, 238, 239, 240, 241, 242, 243, 244, 245, 246, 248, 249, 250, 251, 252, 253, 254, 255, 192, 193, 194, 195, 196, 197, 198, 199, 200, 201, 202, 203, 204, 205, 206, 207, 208, 209, 210, 211, 212, 213, 214, 216, 217, 218, 219, 220, 221, 222]
noncomputable def wcL : List Nat := wcS ++ [126, 45, 46, 47, 42, 63, 61]
noncomputable def LC.com (c : LC) : List Nat := if c.lx = true then [35] else []
noncomputable def LC.pun (c : LC) : List Nat := if c.lx = true then [44] else []
noncomputable def LC.wc (c : LC) : List Nat := if c.lx = true then wcL else wcS
noncomputable def LC.wsp (c : LC) : Bool := !c.lx
structure LexD (c : LC) (es : List DictEntry) (st : Sta) (tok : List Nat) : Prop where
  len : es.length ≤ 60
  instream : getL (Str.ofString "instream") es = some (some (.ref c.io))
  posix : getL (Str.ofString "posix") es = some (some (.bool true))
  eof : getL (Str.ofString "eof") es = some (some .none)
  com : ∃ t, getL (Str.ofString "commenters") es = some (some (.str (S c.com) t))
  wc : ∃ t, getL (Str.ofString "wordchars") es = some (some (.str (S c.wc) t))
  ws : ∃ t, getL (Str.ofString "whitespace") es = some (some (.str (S [32, 9, 13, 10]) t))
  wsp : getL (Str.ofString "whitespace_split") es = some (some (.bool c.wsp))
  quotes : ∃ t, getL (Str.ofString "quotes") es = some (some (.str (S [39, 34]) t))
  escape : ∃ t, getL (Str.ofString "escape") es = some (some (.str (S [92]) t))
  escq : ∃ t, getL (Str.ofString "escapedquotes") es = some (some (.str (S [34]) t))
  state : ∃ t, getL (Str.ofString "state") es = some (some (st.val t))
  pushback : getL (Str.ofString "pushback") es = some (some (.ref c.pb))
  lineno : ∃ ln t, getL (Str.ofString "lineno") es = some (some (.int ln t))
  debug : ∃ t, getL (Str.ofString "debug") es = some (some (.int 0 t))
  token : ∃ t, getL (Str.ofString "token") es = some (some (.str (S tok) t))
  filestack : getL (Str.ofString "filestack") es = some (some (.ref c.fs))
  source : getL (Str.ofString "source") es = some (some .none)
  pun : ∃ t, getL (Str.ofString "_punctuation_chars") es = some (some (.str (S c.pun) t))
  pcs : c.lx = true → getL (Str.ofString "_pushback_chars") es = some (some (.ref c.pc))
  rt : getL (Str.ofString "read_token") es = some none
  gt : getL (Str.ofString "get_token") es = some none

structure IoD (c : LC) (es : List DictEntry) (pos : Nat) : Prop where
  len : es.length ≤ 60
  buf : ∃ t, getL (Str.ofString "_StringIO__buf") es = some (some (.str (S c.tx) t))
  ps : ∃ t, getL (Str.ofString "_StringIO__pos") es = some (some (.int (pos : Nat) t))
  chk : getL (Str.ofString "_StringIO__check") es = some none
  rd : getL (Str.ofString "read") es = some none
  le : pos ≤ (S c.tx).length
  fit : (S c.tx).length ≤ 1000

structure LC.Ok (c : LC) : Prop where
  X : (Mine.hd.heap_39 c.w.params).In c.g
  d1 : c.x ≠ c.dx
  d2 : c.x ≠ c.dio
  d3 : c.io ≠ c.dx
  d4 : c.io ≠ c.dio
  d5 : c.dx ≠ c.dio
  d6 : c.pc ≠ c.dx
  d7 : c.pc ≠ c.dio
  d8 : c.pc ≠ c.x
  d9 : c.pc ≠ c.io
  f1 : ∀ p ∈ c.frz, p.1 ≠ c.dx
  f2 : ∀ p ∈ c.frz, p.1 ≠ c.dio
  f3 : ∀ p ∈ c.frz, p.1 ≠ c.pc
  pbIn : ∃ k, (c.pb, dqO k []) ∈ c.frz
  fsIn : ∃ k, (c.fs, dqO k []) ∈ c.frz

noncomputable def LC.rest (c : LC) (k : Int) (ts : List Value) : List (Addr × Obj) := (if c.lx = true then [(c.pc, dqO k ts)] else []) ++ c.frz
noncomputable def LC.led (c : LC) (es : List DictEntry) (ne : Nat) (ei : List DictEntry) (ni : Nat) (k : Int) (ts : List Value) : List (Addr × Obj) :=
  (c.x, instObj 727 c.dx) :: (c.dx, dictOf es ne) :: (c.io, instObj 592 c.dio) :: (c.dio, dictOf ei ni) :: c.rest k ts

/-- the state while a method of the lexer runs: the frame's names known, the lexer's state -/
inductive LexSt (c : LC) (l : List (Str × Value)) (st : Sta) (tok : List Nat) (pos : Nat) (pbk : List Nat) (s : Shared) : Prop
  | mk (h : Heap) (tk : Nat) (m : Str → Option Value) (es : List DictEntry) (ne : Nat) (ei : List DictEntry) (ni : Nat) (k : Int) (ts : List Value) (e : s = { c.s0 with heap := h, toks := tk }) (F : Fr c.g c.L h m) (hl : ∀ p ∈ l, m p.1 = some p.2)
    (N : News c.g c.L h (c.led es ne ei ni k ts)) (D : LexD c es st tok) (I : IoD c ei pos) (T : All2 (fun v n => ∃ t, v = .str (S [n]) t) ts pbk) : LexSt c l st tok pos pbk s

theorem LC.Ok.rest_dx {c : LC} (o : c.Ok) {k : Int} {ts : List Value} : ∀ p ∈ c.rest k ts, p.1 ≠ c.dx := fun p hp => by
  unfold LC.rest at hp
  rcases List.mem_append.mp hp with h | h
  · split at h
    · rw [List.mem_singleton.mp h]; exact o.d6
    · cases h
  · exact o.f1 p h
theorem LC.Ok.rest_dio {c : LC} (o : c.Ok) {k : Int} {ts : List Value} : ∀ p ∈ c.rest k ts, p.1 ≠ c.dio := fun p hp => by
  unfold LC.rest at hp
  rcases List.mem_append.mp hp with h | h
  · split at h
    · rw [List.mem_singleton.mp h]; exact o.d7
    · cases h
  · exact o.f2 p h
theorem LC.Ok.upd_dx {c : LC} (o : c.Ok) {es es' ei : List DictEntry} {ne ne' ni : Nat} {k : Int} {ts : List Value} : Upd c.dx (dictOf es ne) (dictOf es' ne') (c.led es ne ei ni k ts) (c.led es' ne' ei ni k ts) :=
  .tail o.d1 (.head fun p hp => by
    rcases List.mem_cons.mp hp with rfl | hp
    · exact o.d3
    · rcases List.mem_cons.mp hp with rfl | hp
      · exact o.d5.symm
      · exact o.rest_dx p hp)

section
variable {c : LC} {A : Around} {E : Value → Shared → Prop} {s : Shared} {l : List (Str × Value)} {st : Sta} {tok : List Nat} {pos : Nat} {pbk : List Nat} {Q : Value → Shared → Prop} {cn : Str} {cs : Scope} {f : Addr} {ccd : Value}

/-- the engine of a read of a plain attribute -/
theorem lex_get {expr : Bool} {name : Str} {P : Value → Prop} (o : c.Ok) (P0 : LexSt c l st tok pos pbk s) (hf : ∀ es, LexD c es st tok → ∃ v, getL name es = some (some v) ∧ P v) (hv : ∀ v, P v → handedIn v = true)
    (ha : findIn (Mine.hd.heap_39 c.w.params) (.ref 727) name = some none)
    (k : ∀ v s', P v → LexSt c l st tok pos pbk s' → Q v s') : wpAny (model Challenge.rw_mq0398_01.row.prog c.w) A (getAttr (.ref c.x) name expr) Q E s := by
  obtain ⟨h, tk, m, es, ne, ei, ni, kk, ts, rfl, F, hl, N, D, I, T⟩ := P0
  obtain ⟨v, hg, hp⟩ := hf es D
  refine' get_own (K := Mine.hd.heap_39 c.w.params) (n := ne) F o.X (InstAt.of_news N (.head _) (.tail _ (.head _))) ?k4 ?k5 ha ?k7 hg (hv v hp) ?_
  case k4 => exact (show plainGet (Mine.hd.heap_39 c.w.params) 727 (Str.ofString "") = true by k_is)
  case k5 => k_is
  case k7 => exact rfl
  exact k v _ hp ⟨h, _, m, es, ne, ei, ni, kk, ts, rfl, F, hl, N, D, I, T⟩

theorem lex_self {p : Pos} (P0 : LexSt c l st tok pos pbk s) {v : Value} {x : Str} (hx : (x, v) ∈ l) (k : Q v s) (hk : cs.kind = .function := by rfl) (hl : (envOf cn cs c.L f ccd).kindOf x = some .local := by rfl) (hd : (x == ("__debug__" : Str)) = false := by decide) :
    wpAny (model Challenge.rw_mq0398_01.row.prog c.w) A (eval (.Name x p) (envOf cn cs c.L f ccd)) Q E s := by
  obtain ⟨h, tk, m, es, ne, ei, ni, kk, ts, rfl, F, hm, r⟩ := P0
  exact ld F (hm _ hx) k hk hl hd
end
end Mine
/-! L3 -/
namespace Mine
open PySem PySem.W PySem.Calls PyProof.Rows PySem.Spec
theorem fill_l3 : ∀ (w : World) (h : Heap), (Mine.hd.heap_39 w.params).In h → PySem.Challenge.rw_mq0398_01.row.prog = PySem.Challenge.rw_mq0398_01.row.prog := by
  k_fill
  intros; rfl
section
variable {c : LC} {A : Around} {E : Value → Shared → Prop} {s : Shared} {l : List (Str × Value)} {st : Sta} {tok : List Nat} {pos : Nat} {pbk : List Nat} {Q : Value → Shared → Prop} {cn : Str} {cs : Scope} {f : Addr} {ccd : Value}

/-- self.NAME as an expression -/
theorem self_attr {name : Str} {p p2 : Pos} (P0 : LexSt c l st tok pos pbk s) (hs : (Str.ofString "self", Value.ref c.x) ∈ l)
    (h : wpAny (model Challenge.rw_mq0398_01.row.prog c.w) A (getAttr (.ref c.x) name true) Q E s) (hk : cs.kind = .function := by rfl) (hl : (envOf cn cs c.L f ccd).kindOf (Str.ofString "self") = some .local := by rfl) :
    wpAny (model Challenge.rw_mq0398_01.row.prog c.w) A (eval (.Attribute (.Name (Str.ofString "self") p) name p2) (envOf cn cs c.L f ccd)) Q E s :=
  Attribute_any_ (lex_self P0 hs h hk hl)
theorem at_instream {p p2 : Pos} (o : c.Ok) (P0 : LexSt c l st tok pos pbk s) (hs : (Str.ofString "self", Value.ref c.x) ∈ l) (k : ∀ s', LexSt c l st tok pos pbk s' → Q (.ref c.io) s')
    (hk : cs.kind = .function := by rfl) (hl : (envOf cn cs c.L f ccd).kindOf (Str.ofString "self") = some .local := by rfl) :
    wpAny (model Challenge.rw_mq0398_01.row.prog c.w) A (eval (.Attribute (.Name (Str.ofString "self") p) (Str.ofString "instream") p2) (envOf cn cs c.L f ccd)) Q E s :=
  self_attr P0 hs (lex_get (P := fun v => v = .ref c.io) o P0 (fun es D => ⟨_, D.instream, rfl⟩) (fun v h => by subst h; rfl) (by k_is) fun v s' hv P => by subst hv; exact k s' P) hk hl
theorem at_posix {p p2 : Pos} (o : c.Ok) (P0 : LexSt c l st tok pos pbk s) (hs : (Str.ofString "self", Value.ref c.x) ∈ l) (k : ∀ s', LexSt c l st tok pos pbk s' → Q (.bool true) s')
    (hk : cs.kind = .function := by rfl) (hl : (envOf cn cs c.L f ccd).kindOf (Str.ofString "self") = some .local := by rfl) :
    wpAny (model Challenge.rw_mq0398_01.row.prog c.w) A (eval (.Attribute (.Name (Str.ofString "self") p) (Str.ofString "posix") p2) (envOf cn cs c.L f ccd)) Q E s :=
  self_attr P0 hs (lex_get (P := fun v => v = .bool true) o P0 (fun es D => ⟨_, D.posix, rfl⟩) (fun v h => by subst h; rfl) (by k_is) fun v s' hv P => by subst hv; exact k s' P) hk hl
theorem at_eof {p p2 : Pos} (o : c.Ok) (P0 : LexSt c l st tok pos pbk s) (hs : (Str.ofString "self", Value.ref c.x) ∈ l) (k : ∀ s', LexSt c l st tok pos pbk s' → Q .none s')
    (hk : cs.kind = .function := by rfl) (hl : (envOf cn cs c.L f ccd).kindOf (Str.ofString "self") = some .local := by rfl) :
    wpAny (model Challenge.rw_mq0398_01.row.prog c.w) A (eval (.Attribute (.Name (Str.ofString "self") p) (Str.ofString "eof") p2) (envOf cn cs c.L f ccd)) Q E s :=
  self_attr P0 hs (lex_get (P := fun v => v = .none) o P0 (fun es D => ⟨_, D.eof, rfl⟩) (fun v h => by subst h; rfl) (by k_is) fun v s' hv P => by subst hv; exact k s' P) hk hl
theorem at_whitespace_split {p p2 : Pos} (o : c.Ok) (P0 : LexSt c l st tok pos pbk s) (hs : (Str.ofString "self", Value.ref c.x) ∈ l) (k : ∀ s', LexSt c l st tok pos pbk s' → Q (.bool c.wsp) s')
    (hk : cs.kind = .function := by rfl) (hl : (envOf cn cs c.L f ccd).kindOf (Str.ofString "self") = some .local := by rfl) :
    wpAny (model Challenge.rw_mq0398_01.row.prog c.w) A (eval (.Attribute (.Name (Str.ofString "self") p) (Str.ofString "whitespace_split") p2) (envOf cn cs c.L f ccd)) Q E s :=
  self_attr P0 hs (lex_get (P := fun v => v = .bool c.wsp) o P0 (fun es D => ⟨_, D.wsp, rfl⟩) (fun v h => by subst h; rfl) (by k_is) fun v s' hv P => by subst hv; exact k s' P) hk hl
theorem at_pushback {p p2 : Pos} (o : c.Ok) (P0 : LexSt c l st tok pos pbk s) (hs : (Str.ofString "self", Value.ref c.x) ∈ l) (k : ∀ s', LexSt c l st tok pos pbk s' → Q (.ref c.pb) s')
    (hk : cs.kind = .function := by rfl) (hl : (envOf cn cs c.L f ccd).kindOf (Str.ofString "self") = some .local := by rfl) :
    wpAny (model Challenge.rw_mq0398_01.row.prog c.w) A (eval (.Attribute (.Name (Str.ofString "self") p) (Str.ofString "pushback") p2) (envOf cn cs c.L f ccd)) Q E s :=
  self_attr P0 hs (lex_get (P := fun v => v = .ref c.pb) o P0 (fun es D => ⟨_, D.pushback, rfl⟩) (fun v h => by subst h; rfl) (by k_is) fun v s' hv P => by subst hv; exact k s' P) hk hl
theorem at_filestack {p p2 : Pos} (o : c.Ok) (P0 : LexSt c l st tok pos pbk s) (hs : (Str.ofString "self", Value.ref c.x) ∈ l) (k : ∀ s', LexSt c l st tok pos pbk s' → Q (.ref c.fs) s')
    (hk : cs.kind = .function := by rfl) (hl : (envOf cn cs c.L f ccd).kindOf (Str.ofString "self") = some .local := by rfl) :
    wpAny (model Challenge.rw_mq0398_01.row.prog c.w) A (eval (.Attribute (.Name (Str.ofString "self") p) (Str.ofString "filestack") p2) (envOf cn cs c.L f ccd)) Q E s :=
  self_attr P0 hs (lex_get (P := fun v => v = .ref c.fs) o P0 (fun es D => ⟨_, D.filestack, rfl⟩) (fun v h => by subst h; rfl) (by k_is) fun v s' hv P => by subst hv; exact k s' P) hk hl
theorem at_source {p p2 : Pos} (o : c.Ok) (P0 : LexSt c l st tok pos pbk s) (hs : (Str.ofString "self", Value.ref c.x) ∈ l) (k : ∀ s', LexSt c l st tok pos pbk s' → Q .none s')
    (hk : cs.kind = .function := by rfl) (hl : (envOf cn cs c.L f ccd).kindOf (Str.ofString "self") = some .local := by rfl) :
    wpAny (model Challenge.rw_mq0398_01.row.prog c.w) A (eval (.Attribute (.Name (Str.ofString "self") p) (Str.ofString "source") p2) (envOf cn cs c.L f ccd)) Q E s :=
  self_attr P0 hs (lex_get (P := fun v => v = .none) o P0 (fun es D => ⟨_, D.source, rfl⟩) (fun v h => by subst h; rfl) (by k_is) fun v s' hv P => by subst hv; exact k s' P) hk hl
theorem at_commenters {p p2 : Pos} (o : c.Ok) (P0 : LexSt c l st tok pos pbk s) (hs : (Str.ofString "self", Value.ref c.x) ∈ l) (k : ∀ t s', LexSt c l st tok pos pbk s' → Q (.str (S c.com) t) s')
    (hk : cs.kind = .function := by rfl) (hl : (envOf cn cs c.L f ccd).kindOf (Str.ofString "self") = some .local := by rfl) :
    wpAny (model Challenge.rw_mq0398_01.row.prog c.w) A (eval (.Attribute (.Name (Str.ofString "self") p) (Str.ofString "commenters") p2) (envOf cn cs c.L f ccd)) Q E s :=
  self_attr P0 hs (lex_get (P := fun v => ∃ t, v = .str (S c.com) t) o P0 (fun es D => let ⟨t, h⟩ := D.com; ⟨_, h, t, rfl⟩) (fun v h => by obtain ⟨t, rfl⟩ := h; rfl) (by k_is) fun v s' hv P => by obtain ⟨t, rfl⟩ := hv; exact k t s' P) hk hl
theorem at_wordchars {p p2 : Pos} (o : c.Ok) (P0 : LexSt c l st tok pos pbk s) (hs : (Str.ofString "self", Value.ref c.x) ∈ l) (k : ∀ t s', LexSt c l st tok pos pbk s' → Q (.str (S c.wc) t) s')
    (hk : cs.kind = .function := by rfl) (hl : (envOf cn cs c.L f ccd).kindOf (Str.ofString "self") = some .local := by rfl) :
    wpAny (model Challenge.rw_mq0398_01.row.prog c.w) A (eval (.Attribute (.Name (Str.ofString "self") p) (Str.ofString "wordchars") p2) (envOf cn cs c.L f ccd)) Q E s :=
  self_attr P0 hs (lex_get (P := fun v => ∃ t, v = .str (S c.wc) t) o P0 (fun es D => let ⟨t, h⟩ := D.wc; ⟨_, h, t, rfl⟩) (fun v h => by obtain ⟨t, rfl⟩ := h; rfl) (by k_is) fun v s' hv P => by obtain ⟨t, rfl⟩ := hv; exact k t s' P) hk hl
theorem at_whitespace {p p2 : Pos} (o : c.Ok) (P0 : LexSt c l st tok pos pbk s) (hs : (Str.ofString "self", Value.ref c.x) ∈ l) (k : ∀ t s', LexSt c l st tok pos pbk s' → Q (.str (S [32, 9, 13, 10]) t) s')
    (hk : cs.kind = .function := by rfl) (hl : (envOf cn cs c.L f ccd).kindOf (Str.ofString "self") = some .local := by rfl) :
    wpAny (model Challenge.rw_mq0398_01.row.prog c.w) A (eval (.Attribute (.Name (Str.ofString "self") p) (Str.ofString "whitespace") p2) (envOf cn cs c.L f ccd)) Q E s :=
  self_attr P0 hs (lex_get (P := fun v => ∃ t, v = .str (S [32, 9, 13, 10]) t) o P0 (fun es D => let ⟨t, h⟩ := D.ws; ⟨_, h, t, rfl⟩) (fun v h => by obtain ⟨t, rfl⟩ := h; rfl) (by k_is) fun v s' hv P => by obtain ⟨t, rfl⟩ := hv; exact k t s' P) hk hl
theorem at_quotes {p p2 : Pos} (o : c.Ok) (P0 : LexSt c l st tok pos pbk s) (hs : (Str.ofString "self", Value.ref c.x) ∈ l) (k : ∀ t s', LexSt c l st tok pos pbk s' → Q (.str (S [39, 34]) t) s')
    (hk : cs.kind = .function := by rfl) (hl : (envOf cn cs c.L f ccd).kindOf (Str.ofString "self") = some .local := by rfl) :
    wpAny (model Challenge.rw_mq0398_01.row.prog c.w) A (eval (.Attribute (.Name (Str.ofString "self") p) (Str.ofString "quotes") p2) (envOf cn cs c.L f ccd)) Q E s :=
  self_attr P0 hs (lex_get (P := fun v => ∃ t, v = .str (S [39, 34]) t) o P0 (fun es D => let ⟨t, h⟩ := D.quotes; ⟨_, h, t, rfl⟩) (fun v h => by obtain ⟨t, rfl⟩ := h; rfl) (by k_is) fun v s' hv P => by obtain ⟨t, rfl⟩ := hv; exact k t s' P) hk hl
theorem at_escape {p p2 : Pos} (o : c.Ok) (P0 : LexSt c l st tok pos pbk s) (hs : (Str.ofString "self", Value.ref c.x) ∈ l) (k : ∀ t s', LexSt c l st tok pos pbk s' → Q (.str (S [92]) t) s')
    (hk : cs.kind = .function := by rfl) (hl : (envOf cn cs c.L f ccd).kindOf (Str.ofString "self") = some .local := by rfl) :
    wpAny (model Challenge.rw_mq0398_01.row.prog c.w) A (eval (.Attribute (.Name (Str.ofString "self") p) (Str.ofString "escape") p2) (envOf cn cs c.L f ccd)) Q E s :=
  self_attr P0 hs (lex_get (P := fun v => ∃ t, v = .str (S [92]) t) o P0 (fun es D => let ⟨t, h⟩ := D.escape; ⟨_, h, t, rfl⟩) (fun v h => by obtain ⟨t, rfl⟩ := h; rfl) (by k_is) fun v s' hv P => by obtain ⟨t, rfl⟩ := hv; exact k t s' P) hk hl
theorem at_escapedquotes {p p2 : Pos} (o : c.Ok) (P0 : LexSt c l st tok pos pbk s) (hs : (Str.ofString "self", Value.ref c.x) ∈ l) (k : ∀ t s', LexSt c l st tok pos pbk s' → Q (.str (S [34]) t) s')
    (hk : cs.kind = .function := by rfl) (hl : (envOf cn cs c.L f ccd).kindOf (Str.ofString "self") = some .local := by rfl) :
    wpAny (model Challenge.rw_mq0398_01.row.prog c.w) A (eval (.Attribute (.Name (Str.ofString "self") p) (Str.ofString "escapedquotes") p2) (envOf cn cs c.L f ccd)) Q E s :=
  self_attr P0 hs (lex_get (P := fun v => ∃ t, v = .str (S [34]) t) o P0 (fun es D => let ⟨t, h⟩ := D.escq; ⟨_, h, t, rfl⟩) (fun v h => by obtain ⟨t, rfl⟩ := h; rfl) (by k_is) fun v s' hv P => by obtain ⟨t, rfl⟩ := hv; exact k t s' P) hk hl
theorem at_token {p p2 : Pos} (o : c.Ok) (P0 : LexSt c l st tok pos pbk s) (hs : (Str.ofString "self", Value.ref c.x) ∈ l) (k : ∀ t s', LexSt c l st tok pos pbk s' → Q (.str (S tok) t) s')
    (hk : cs.kind = .function := by rfl) (hl : (envOf cn cs c.L f ccd).kindOf (Str.ofString "self") = some .local := by rfl) :
    wpAny (model Challenge.rw_mq0398_01.row.prog c.w) A (eval (.Attribute (.Name (Str.ofString "self") p) (Str.ofString "token") p2) (envOf cn cs c.L f ccd)) Q E s :=
  self_attr P0 hs (lex_get (P := fun v => ∃ t, v = .str (S tok) t) o P0 (fun es D => let ⟨t, h⟩ := D.token; ⟨_, h, t, rfl⟩) (fun v h => by obtain ⟨t, rfl⟩ := h; rfl) (by k_is) fun v s' hv P => by obtain ⟨t, rfl⟩ := hv; exact k t s' P) hk hl
theorem at_punctuation_chars {p p2 : Pos} (o : c.Ok) (P0 : LexSt c l st tok pos pbk s) (hs : (Str.ofString "self", Value.ref c.x) ∈ l) (k : ∀ t s', LexSt c l st tok pos pbk s' → Q (.str (S c.pun) t) s')
    (hk : cs.kind = .function := by rfl) (hl : (envOf cn cs c.L f ccd).kindOf (Str.ofString "self") = some .local := by rfl) :
    wpAny (model Challenge.rw_mq0398_01.row.prog c.w) A (eval (.Attribute (.Name (Str.ofString "self") p) (Str.ofString "_punctuation_chars") p2) (envOf cn cs c.L f ccd)) Q E s :=
  self_attr P0 hs (lex_get (P := fun v => ∃ t, v = .str (S c.pun) t) o P0 (fun es D => let ⟨t, h⟩ := D.pun; ⟨_, h, t, rfl⟩) (fun v h => by obtain ⟨t, rfl⟩ := h; rfl) (by k_is) fun v s' hv P => by obtain ⟨t, rfl⟩ := hv; exact k t s' P) hk hl
theorem at_state {p p2 : Pos} (o : c.Ok) (P0 : LexSt c l st tok pos pbk s) (hs : (Str.ofString "self", Value.ref c.x) ∈ l) (k : ∀ t s', LexSt c l st tok pos pbk s' → Q (st.val t) s')
    (hk : cs.kind = .function := by rfl) (hl : (envOf cn cs c.L f ccd).kindOf (Str.ofString "self") = some .local := by rfl) :
    wpAny (model Challenge.rw_mq0398_01.row.prog c.w) A (eval (.Attribute (.Name (Str.ofString "self") p) (Str.ofString "state") p2) (envOf cn cs c.L f ccd)) Q E s :=
  self_attr P0 hs (lex_get (P := fun v => ∃ t, v = st.val t) o P0 (fun es D => let ⟨t, h⟩ := D.state; ⟨_, h, t, rfl⟩) (fun v h => by obtain ⟨t, rfl⟩ := h; cases st <;> rfl) (by k_is) fun v s' hv P => by obtain ⟨t, rfl⟩ := hv; exact k t s' P) hk hl
theorem at_debug {p p2 : Pos} (o : c.Ok) (P0 : LexSt c l st tok pos pbk s) (hs : (Str.ofString "self", Value.ref c.x) ∈ l) (k : ∀ t s', LexSt c l st tok pos pbk s' → Q (.int 0 t) s')
    (hk : cs.kind = .function := by rfl) (hl : (envOf cn cs c.L f ccd).kindOf (Str.ofString "self") = some .local := by rfl) :
    wpAny (model Challenge.rw_mq0398_01.row.prog c.w) A (eval (.Attribute (.Name (Str.ofString "self") p) (Str.ofString "debug") p2) (envOf cn cs c.L f ccd)) Q E s :=
  self_attr P0 hs (lex_get (P := fun v => ∃ t, v = .int 0 t) o P0 (fun es D => let ⟨t, h⟩ := D.debug; ⟨_, h, t, rfl⟩) (fun v h => by obtain ⟨t, rfl⟩ := h; rfl) (by k_is) fun v s' hv P => by obtain ⟨t, rfl⟩ := hv; exact k t s' P) hk hl
theorem at_pushback_chars {p p2 : Pos} (o : c.Ok) (hx : c.lx = true) (P0 : LexSt c l st tok pos pbk s) (hs : (Str.ofString "self", Value.ref c.x) ∈ l) (k : ∀ s', LexSt c l st tok pos pbk s' → Q (.ref c.pc) s')
    (hk : cs.kind = .function := by rfl) (hl : (envOf cn cs c.L f ccd).kindOf (Str.ofString "self") = some .local := by rfl) :
    wpAny (model Challenge.rw_mq0398_01.row.prog c.w) A (eval (.Attribute (.Name (Str.ofString "self") p) (Str.ofString "_pushback_chars") p2) (envOf cn cs c.L f ccd)) Q E s :=
  self_attr P0 hs (lex_get (P := fun v => v = .ref c.pc) o P0 (fun es D => ⟨_, D.pcs hx, rfl⟩) (fun v h => by subst h; rfl) (by k_is) fun v s' hv P => by subst hv; exact k s' P) hk hl
theorem LC.com_L (hx : c.lx = true) : c.com = [35] := by unfold LC.com; rw [if_pos hx]
theorem LC.com_S (hx : c.lx = false) : c.com = [] := by unfold LC.com; rw [if_neg (by rw [hx]; decide)]
theorem LC.pun_L (hx : c.lx = true) : c.pun = [44] := by unfold LC.pun; rw [if_pos hx]
theorem LC.pun_S (hx : c.lx = false) : c.pun = [] := by unfold LC.pun; rw [if_neg (by rw [hx]; decide)]
theorem LC.wc_L (hx : c.lx = true) : c.wc = wcL := by unfold LC.wc; rw [if_pos hx]
theorem LC.wc_S (hx : c.lx = false) : c.wc = wcS := by unfold LC.wc; rw [if_neg (by rw [hx]; decide)]
end
end Mine
/-! L4 -/
namespace Mine
open PySem PySem.W PySem.Calls PyProof.Rows PySem.Spec
theorem fill_l4 : ∀ (w : World) (h : Heap), (Mine.hd.heap_39 w.params).In h → PySem.Challenge.rw_mq0398_01.row.prog = PySem.Challenge.rw_mq0398_01.row.prog := by
  k_fill
  intros; rfl
theorem LexD.put_state {c : LC} {es : List DictEntry} {st st' : Sta} {tok : List Nat} {hsh : Int} {tk t : Tok}  (D : LexD c es st tok) : LexD c (putL (Str.ofString "state") hsh (.str (Str.ofString "state") tk) (st'.val t) es) st' tok where
  len := let ⟨_, h⟩ := D.state; putL_same h ▸ D.len
  instream := (getL_put_ne (by decide +kernel)).trans D.instream
  posix := (getL_put_ne (by decide +kernel)).trans D.posix
  eof := (getL_put_ne (by decide +kernel)).trans D.eof
  com := let ⟨t, h⟩ := D.com; ⟨t, (getL_put_ne (by decide +kernel)).trans h⟩
  wc := let ⟨t, h⟩ := D.wc; ⟨t, (getL_put_ne (by decide +kernel)).trans h⟩
  ws := let ⟨t, h⟩ := D.ws; ⟨t, (getL_put_ne (by decide +kernel)).trans h⟩
  wsp := (getL_put_ne (by decide +kernel)).trans D.wsp
  quotes := let ⟨t, h⟩ := D.quotes; ⟨t, (getL_put_ne (by decide +kernel)).trans h⟩
  escape := let ⟨t, h⟩ := D.escape; ⟨t, (getL_put_ne (by decide +kernel)).trans h⟩
  escq := let ⟨t, h⟩ := D.escq; ⟨t, (getL_put_ne (by decide +kernel)).trans h⟩
  state := ⟨_, getL_put_eq⟩
  pushback := (getL_put_ne (by decide +kernel)).trans D.pushback
  lineno := let ⟨n, t, h⟩ := D.lineno; ⟨n, t, (getL_put_ne (by decide +kernel)).trans h⟩
  debug := let ⟨t, h⟩ := D.debug; ⟨t, (getL_put_ne (by decide +kernel)).trans h⟩
  token := let ⟨t, h⟩ := D.token; ⟨t, (getL_put_ne (by decide +kernel)).trans h⟩
  filestack := (getL_put_ne (by decide +kernel)).trans D.filestack
  source := (getL_put_ne (by decide +kernel)).trans D.source
  pun := let ⟨t, h⟩ := D.pun; ⟨t, (getL_put_ne (by decide +kernel)).trans h⟩
  pcs := fun q => (getL_put_ne (by decide +kernel)).trans (D.pcs q)
  rt := (getL_put_ne (by decide +kernel)).trans D.rt
  gt := (getL_put_ne (by decide +kernel)).trans D.gt
theorem LexD.put_token {c : LC} {es : List DictEntry} {st : Sta} {tok tok' : List Nat} {hsh : Int} {tk t : Tok}  (D : LexD c es st tok) : LexD c (putL (Str.ofString "token") hsh (.str (Str.ofString "token") tk) (.str (S tok') t) es) st tok' where
  len := let ⟨_, h⟩ := D.token; putL_same h ▸ D.len
  instream := (getL_put_ne (by decide +kernel)).trans D.instream
  posix := (getL_put_ne (by decide +kernel)).trans D.posix
  eof := (getL_put_ne (by decide +kernel)).trans D.eof
  com := let ⟨t, h⟩ := D.com; ⟨t, (getL_put_ne (by decide +kernel)).trans h⟩
  wc := let ⟨t, h⟩ := D.wc; ⟨t, (getL_put_ne (by decide +kernel)).trans h⟩
  ws := let ⟨t, h⟩ := D.ws; ⟨t, (getL_put_ne (by decide +kernel)).trans h⟩
  wsp := (getL_put_ne (by decide +kernel)).trans D.wsp
  quotes := let ⟨t, h⟩ := D.quotes; ⟨t, (getL_put_ne (by decide +kernel)).trans h⟩
  escape := let ⟨t, h⟩ := D.escape; ⟨t, (getL_put_ne (by decide +kernel)).trans h⟩
  escq := let ⟨t, h⟩ := D.escq; ⟨t, (getL_put_ne (by decide +kernel)).trans h⟩
  state := let ⟨t, h⟩ := D.state; ⟨t, (getL_put_ne (by decide +kernel)).trans h⟩
  pushback := (getL_put_ne (by decide +kernel)).trans D.pushback
  lineno := let ⟨n, t, h⟩ := D.lineno; ⟨n, t, (getL_put_ne (by decide +kernel)).trans h⟩
  debug := let ⟨t, h⟩ := D.debug; ⟨t, (getL_put_ne (by decide +kernel)).trans h⟩
  token := ⟨_, getL_put_eq⟩
  filestack := (getL_put_ne (by decide +kernel)).trans D.filestack
  source := (getL_put_ne (by decide +kernel)).trans D.source
  pun := let ⟨t, h⟩ := D.pun; ⟨t, (getL_put_ne (by decide +kernel)).trans h⟩
  pcs := fun q => (getL_put_ne (by decide +kernel)).trans (D.pcs q)
  rt := (getL_put_ne (by decide +kernel)).trans D.rt
  gt := (getL_put_ne (by decide +kernel)).trans D.gt
theorem LexD.put_lineno {c : LC} {es : List DictEntry} {st : Sta} {tok : List Nat} {hsh : Int} {tk t : Tok} {n : Int} (D : LexD c es st tok) : LexD c (putL (Str.ofString "lineno") hsh (.str (Str.ofString "lineno") tk) (.int n t) es) st tok where
  len := let ⟨_, _, h⟩ := D.lineno; putL_same h ▸ D.len
  instream := (getL_put_ne (by decide +kernel)).trans D.instream
  posix := (getL_put_ne (by decide +kernel)).trans D.posix
  eof := (getL_put_ne (by decide +kernel)).trans D.eof
  com := let ⟨t, h⟩ := D.com; ⟨t, (getL_put_ne (by decide +kernel)).trans h⟩
  wc := let ⟨t, h⟩ := D.wc; ⟨t, (getL_put_ne (by decide +kernel)).trans h⟩
  ws := let ⟨t, h⟩ := D.ws; ⟨t, (getL_put_ne (by decide +kernel)).trans h⟩
  wsp := (getL_put_ne (by decide +kernel)).trans D.wsp
  quotes := let ⟨t, h⟩ := D.quotes; ⟨t, (getL_put_ne (by decide +kernel)).trans h⟩
  escape := let ⟨t, h⟩ := D.escape; ⟨t, (getL_put_ne (by decide +kernel)).trans h⟩
  escq := let ⟨t, h⟩ := D.escq; ⟨t, (getL_put_ne (by decide +kernel)).trans h⟩
  state := let ⟨t, h⟩ := D.state; ⟨t, (getL_put_ne (by decide +kernel)).trans h⟩
  pushback := (getL_put_ne (by decide +kernel)).trans D.pushback
  lineno := ⟨_, _, getL_put_eq⟩
  debug := let ⟨t, h⟩ := D.debug; ⟨t, (getL_put_ne (by decide +kernel)).trans h⟩
  token := let ⟨t, h⟩ := D.token; ⟨t, (getL_put_ne (by decide +kernel)).trans h⟩
  filestack := (getL_put_ne (by decide +kernel)).trans D.filestack
  source := (getL_put_ne (by decide +kernel)).trans D.source
  pun := let ⟨t, h⟩ := D.pun; ⟨t, (getL_put_ne (by decide +kernel)).trans h⟩
  pcs := fun q => (getL_put_ne (by decide +kernel)).trans (D.pcs q)
  rt := (getL_put_ne (by decide +kernel)).trans D.rt
  gt := (getL_put_ne (by decide +kernel)).trans D.gt
section
variable {c : LC} {A : Around} {E : Value → Shared → Prop} {s : Shared} {l : List (Str × Value)} {st st' : Sta} {tok tok' : List Nat} {pos : Nat} {pbk : List Nat} {cn : Str} {cs : Scope} {f : Addr} {ccd : Value}
theorem lex_set {name : Str} {v : Value} {Q : Unit → Shared → Prop} (o : c.Ok) (P0 : LexSt c l st tok pos pbk s) (hold : ∀ es, LexD c es st tok → ∃ v0, getL name es = some (some v0))
    (hnew : ∀ es hsh tk, LexD c es st tok → LexD c (putL name hsh (.str name tk) v es) st' tok') (ht : takerIn (Mine.hd.heap_39 c.w.params) 727 name = some none)
    (k : ∀ s', LexSt c l st' tok' pos pbk s' → Q () s') : wpAny (model Challenge.rw_mq0398_01.row.prog c.w) A (setAttr (.ref c.x) name v) Q E s := by
  obtain ⟨h, tk, m, es, ne, ei, ni, kk, ts, rfl, F, hl, N, D, I, T⟩ := P0
  obtain ⟨v0, hg⟩ := hold es D
  refine' set_A (K := Mine.hd.heap_39 c.w.params) (n := ne) F o.X N (InstAt.of_news N (.head _) (.tail _ (.head _))) rfl ?k1 ?k2 ht ?k3 hg o.upd_dx (by have := D.len; omega) ?_
  case k1 => k_is
  case k2 => k_is
  case k3 => k_is
  intro h' F' N' _
  exact k _ ⟨h', _, m, _, _, ei, ni, kk, ts, rfl, F', hl, N', hnew _ _ _ D, I, T⟩
theorem set_state {t : Tok} {v : Value} {Q : Unit → Shared → Prop} (hv : v = st'.val t) (o : c.Ok) (P0 : LexSt c l st tok pos pbk s) (k : ∀ s', LexSt c l st' tok pos pbk s' → Q () s') :
    wpAny (model Challenge.rw_mq0398_01.row.prog c.w) A (setAttr (.ref c.x) (Str.ofString "state") v) Q E s :=
  lex_set o P0 (fun es D => let ⟨_, h⟩ := D.state; ⟨_, h⟩) (fun es hsh tk D => by subst hv; exact D.put_state) (by k_is) k
theorem set_token {t : Tok} {v : Value} {Q : Unit → Shared → Prop} (hv : v = .str (S tok') t) (o : c.Ok) (P0 : LexSt c l st tok pos pbk s) (k : ∀ s', LexSt c l st tok' pos pbk s' → Q () s') :
    wpAny (model Challenge.rw_mq0398_01.row.prog c.w) A (setAttr (.ref c.x) (Str.ofString "token") v) Q E s :=
  lex_set o P0 (fun es D => let ⟨_, h⟩ := D.token; ⟨_, h⟩) (fun es hsh tk D => by subst hv; exact D.put_token) (by k_is) k
theorem set_lineno {t : Tok} {n : Int} {Q : Unit → Shared → Prop} (o : c.Ok) (P0 : LexSt c l st tok pos pbk s) (k : ∀ s', LexSt c l st tok pos pbk s' → Q () s') :
    wpAny (model Challenge.rw_mq0398_01.row.prog c.w) A (setAttr (.ref c.x) (Str.ofString "lineno") (.int n t)) Q E s :=
  lex_set o P0 (fun es D => let ⟨_, _, h⟩ := D.lineno; ⟨_, h⟩) (fun es hsh tk D => D.put_lineno) (by k_is) k

/-- a name of the frame is stored -/
noncomputable def setN (x : Str) (v : Value) : List (Str × Value) → List (Str × Value)
  | [] => [(x, v)]
  | p :: r => if p.1 = x then (x, v) :: r.filter (fun q => decide (q.1 ≠ x)) else p :: setN x v r
theorem setN_mem {x : Str} {v : Value} : ∀ {l : List (Str × Value)} {p : Str × Value}, p ∈ setN x v l → p = (x, v) ∨ (p ∈ l ∧ p.1 ≠ x)
  | [], p, h => .inl (List.mem_singleton.mp h)
  | q :: r, p, h => by
    unfold setN at h
    split at h
    · rename_i e
      rcases List.mem_cons.mp h with rfl | h
      · exact .inl rfl
      · obtain ⟨h1, h2⟩ := List.mem_filter.mp h
        exact .inr ⟨.tail _ h1, by simpa using h2⟩
    · rename_i e
      rcases List.mem_cons.mp h with rfl | h
      · exact .inr ⟨.head _, e⟩
      · exact (setN_mem h).imp id fun ⟨a, b⟩ => ⟨.tail _ a, b⟩
theorem st_name {x : Str} {v : Value} {Q : Unit → Shared → Prop} (P0 : LexSt c l st tok pos pbk s) (k : ∀ s', LexSt c (setN x v l) st tok pos pbk s' → Q () s')
    (hk : cs.kind = .function := by rfl) (hl : (envOf cn cs c.L f ccd).kindOf x = some .local := by rfl) :
    wpAny (model Challenge.rw_mq0398_01.row.prog c.w) A (storeName (envOf cn cs c.L f ccd) x v) Q E s := by
  obtain ⟨h, tk, m, es, ne, ei, ni, kk, ts, rfl, F, hm, N, D, I, T⟩ := P0
  refine stN F N (fun h' F' N' => k _ ⟨h', _, _, es, ne, ei, ni, kk, ts, rfl, F', fun p hp => ?_, N', D, I, T⟩) hk hl
  rcases setN_mem hp with rfl | ⟨h1, h2⟩
  · exact if_pos rfl
  · exact (if_neg h2).trans (hm p h1)
theorem LexSt.toks {tk' : Nat} (P0 : LexSt c l st tok pos pbk s) : LexSt c l st tok pos pbk { s with toks := tk' } := by
  obtain ⟨h, tk, m, es, ne, ei, ni, kk, ts, rfl, F, hm, N, D, I, T⟩ := P0
  exact ⟨h, tk', m, es, ne, ei, ni, kk, ts, rfl, F, hm, N, D, I, T⟩
end
end Mine
/-! L5 -/
namespace Mine
open PySem PySem.W PySem.Calls PyProof.Rows PySem.Spec
theorem fill_l5 : ∀ (w : World) (h : Heap), (Mine.hd.heap_39 w.params).In h → PySem.Challenge.rw_mq0398_01.row.prog = PySem.Challenge.rw_mq0398_01.row.prog := by
  k_fill
  intros; rfl
section
variable {c : LC} {A A₀ : Around} {E : Value → Shared → Prop} {s : Shared} {l : List (Str × Value)} {st st' : Sta} {tok tok' : List Nat} {pos : Nat} {pbk : List Nat} {cn : Str} {cs : Scope} {f : Addr} {ccd : Value}
variable {mg mb : Str → Option Value} {mean : ExcName → Option Value} {base : Heap} {env : Env} {outer : List Env}

theorem LC.led_lx {c : LC} (hx : c.lx = true) {es ei : List DictEntry} {ne ni : Nat} {k : Int} {ts : List Value} :
    c.led es ne ei ni k ts = (c.x, instObj 727 c.dx) :: (c.dx, dictOf es ne) :: (c.io, instObj 592 c.dio) :: (c.dio, dictOf ei ni) :: (c.pc, dqO k ts) :: c.frz := by
  unfold LC.led LC.rest; rw [if_pos hx]; rfl
theorem LC.frz_led {c : LC} {es ei : List DictEntry} {ne ni : Nat} {k : Int} {ts : List Value} {p : Addr × Obj} (h : p ∈ c.frz) : p ∈ c.led es ne ei ni k ts :=
  .tail _ (.tail _ (.tail _ (.tail _ (List.mem_append_right _ h))))

theorem at_pun {p p2 : Pos} {Q : Value → Shared → Prop} (am : Amb c.w mg mb mean 2 A A₀ base c.g env outer c.L) (P0 : LexSt c l st tok pos pbk s) (hs : (Str.ofString "self", Value.ref c.x) ∈ l) (k : ∀ t s', LexSt c l st tok pos pbk s' → Q (.str (S c.pun) t) s')
    (hk : cs.kind = .function := by rfl) (hl : (envOf cn cs c.L f ccd).kindOf (Str.ofString "self") = some .local := by rfl) :
    wpAny (model Challenge.rw_mq0398_01.row.prog c.w) A (eval (.Attribute (.Name (Str.ofString "self") p) (Str.ofString "punctuation_chars") p2) (envOf cn cs c.L f ccd)) Q E s := by
  refine self_attr P0 hs ?_ hk hl
  obtain ⟨h, tk, m, es, ne, ei, ni, kk, ts, rfl, F, hm, N, D, I, T⟩ := P0
  obtain ⟨t, ht⟩ := D.pun
  exact pun_get am F N ht fun h' tk' F' N' => k t _ ⟨h', tk', m, es, ne, ei, ni, kk, ts, rfl, F', hm, N', D, I, T⟩

theorem tr_pc0 {Q : Bool → Shared → Prop} (hx : c.lx = true) (P0 : LexSt c l st tok pos [] s) (k : ∀ s', LexSt c l st tok pos [] s' → Q false s') : wpAny (model Challenge.rw_mq0398_01.row.prog c.w) A (truthy (.ref c.pc)) Q E s := by
  obtain ⟨h, tk, m, es, ne, ei, ni, kk, ts, rfl, F, hm, N, D, I, T⟩ := P0
  cases T
  have N' := N
  rw [LC.led_lx hx] at N'
  exact dq_truthy0 N' (.tail _ (.tail _ (.tail _ (.tail _ (.head _))))) (k _ ⟨h, _, m, es, ne, ei, ni, kk, [], rfl, F, hm, N, D, I, .nil⟩)
theorem tr_pc1 {n : Nat} {Q : Bool → Shared → Prop} (hx : c.lx = true) (P0 : LexSt c l st tok pos [n] s) (k : ∀ s', LexSt c l st tok pos [n] s' → Q true s') : wpAny (model Challenge.rw_mq0398_01.row.prog c.w) A (truthy (.ref c.pc)) Q E s := by
  obtain ⟨h, tk, m, es, ne, ei, ni, kk, ts, rfl, F, hm, N, D, I, T⟩ := P0
  cases T with
  | cons hp T => cases T with
    | nil =>
      have N' := N
      rw [LC.led_lx hx] at N'
      exact dq_truthy1 N' (.tail _ (.tail _ (.tail _ (.tail _ (.head _))))) (k _ ⟨h, _, m, es, ne, ei, ni, kk, _, rfl, F, hm, N, D, I, .cons hp .nil⟩)
theorem tr_pb {Q : Bool → Shared → Prop} (o : c.Ok) (P0 : LexSt c l st tok pos pbk s) (k : ∀ s', LexSt c l st tok pos pbk s' → Q false s') : wpAny (model Challenge.rw_mq0398_01.row.prog c.w) A (truthy (.ref c.pb)) Q E s := by
  obtain ⟨h, tk, m, es, ne, ei, ni, kk, ts, rfl, F, hm, N, D, I, T⟩ := P0
  obtain ⟨q, hq⟩ := o.pbIn
  exact dq_truthy0 N (LC.frz_led hq) (k _ ⟨h, _, m, es, ne, ei, ni, kk, ts, rfl, F, hm, N, D, I, T⟩)
theorem tr_fs {Q : Bool → Shared → Prop} (o : c.Ok) (P0 : LexSt c l st tok pos pbk s) (k : ∀ s', LexSt c l st tok pos pbk s' → Q false s') : wpAny (model Challenge.rw_mq0398_01.row.prog c.w) A (truthy (.ref c.fs)) Q E s := by
  obtain ⟨h, tk, m, es, ne, ei, ni, kk, ts, rfl, F, hm, N, D, I, T⟩ := P0
  obtain ⟨q, hq⟩ := o.fsIn
  exact dq_truthy0 N (LC.frz_led hq) (k _ ⟨h, _, m, es, ne, ei, ni, kk, ts, rfl, F, hm, N, D, I, T⟩)
theorem LC.Ok.upd_pc {c : LC} (o : c.Ok) {es ei : List DictEntry} {ne ni : Nat} {k k' : Int} {ts ts' : List Value} : Upd c.pc (dqO k ts) (dqO k' ts')
    ((c.x, instObj 727 c.dx) :: (c.dx, dictOf es ne) :: (c.io, instObj 592 c.dio) :: (c.dio, dictOf ei ni) :: (c.pc, dqO k ts) :: c.frz)
    ((c.x, instObj 727 c.dx) :: (c.dx, dictOf es ne) :: (c.io, instObj 592 c.dio) :: (c.dio, dictOf ei ni) :: (c.pc, dqO k' ts') :: c.frz) :=
  .tail o.d8.symm (.tail o.d6.symm (.tail o.d9.symm (.tail o.d7.symm (.head o.f3))))
theorem pc_getPop {pl : Sem Bool} {Q : Value × List Value → Shared → Prop} (hx : c.lx = true) (P0 : LexSt c l st tok pos pbk s) (k : Q (.builtin "collections.deque.pop", [.ref c.pc]) s) :
    wpAny (model Challenge.rw_mq0398_01.row.prog c.w) A (getMethod (.ref c.pc) (Str.ofString "pop") pl) Q E s := by
  obtain ⟨h, tk, m, es, ne, ei, ni, kk, ts, rfl, F, hm, N, D, I, T⟩ := P0
  rw [LC.led_lx hx] at N
  exact dq_getPop N (.tail _ (.tail _ (.tail _ (.tail _ (.head _))))) k
theorem pc_getAppend {pl : Sem Bool} {Q : Value × List Value → Shared → Prop} (hx : c.lx = true) (P0 : LexSt c l st tok pos pbk s) (k : Q (.builtin "collections.deque.append", [.ref c.pc]) s) :
    wpAny (model Challenge.rw_mq0398_01.row.prog c.w) A (getMethod (.ref c.pc) (Str.ofString "append") pl) Q E s := by
  obtain ⟨h, tk, m, es, ne, ei, ni, kk, ts, rfl, F, hm, N, D, I, T⟩ := P0
  rw [LC.led_lx hx] at N
  exact dq_getAppend N (.tail _ (.tail _ (.tail _ (.tail _ (.head _))))) k
theorem pc_pop {n : Nat} {Q : Value → Shared → Prop} (o : c.Ok) (hx : c.lx = true) (P0 : LexSt c l st tok pos [n] s) (k : ∀ t s', LexSt c l st tok pos [] s' → Q (.str (S [n]) t) s') :
    wpAny (model Challenge.rw_mq0398_01.row.prog c.w) A (call (.builtin "collections.deque.pop") [.ref c.pc]) Q E s := by
  obtain ⟨h, tk, m, es, ne, ei, ni, kk, ts, rfl, F, hm, N, D, I, T⟩ := P0
  cases T with
  | cons hp T => cases T with
    | nil =>
      obtain ⟨t, rfl⟩ := hp
      rw [LC.led_lx hx] at N
      refine dq_pop (items := []) F N o.upd_pc (by decide) fun h' F' N' => k t _ ⟨h', tk, m, es, ne, ei, ni, kk + 1, [], rfl, F', hm, ?_, D, I, .nil⟩
      rw [LC.led_lx hx]; exact N'
theorem pc_append {n : Nat} {t : Tok} {Q : Value → Shared → Prop} (o : c.Ok) (hx : c.lx = true) (P0 : LexSt c l st tok pos [] s) (k : ∀ s', LexSt c l st tok pos [n] s' → Q .none s') :
    wpAny (model Challenge.rw_mq0398_01.row.prog c.w) A (call (.builtin "collections.deque.append") [.ref c.pc, .str (S [n]) t]) Q E s := by
  obtain ⟨h, tk, m, es, ne, ei, ni, kk, ts, rfl, F, hm, N, D, I, T⟩ := P0
  cases T
  rw [LC.led_lx hx] at N
  refine dq_append (items := []) F N o.upd_pc (by decide) fun h' F' N' => k _ ⟨h', tk, m, es, ne, ei, ni, kk + 1, [.str (S [n]) t], rfl, F', hm, ?_, D, I, .cons ⟨t, rfl⟩ .nil⟩
  rw [LC.led_lx hx]; exact N'
theorem io_getRead {pl : Sem Bool} {Q : Value × List Value → Shared → Prop} (o : c.Ok) (P0 : LexSt c l st tok pos pbk s) (k : Q (.ref 538, [.ref c.io]) s) :
    wpAny (model Challenge.rw_mq0398_01.row.prog c.w) A (getMethod (.ref c.io) (Str.ofString "read") pl) Q E s := by
  obtain ⟨h, tk, m, es, ne, ei, ni, kk, ts, rfl, F, hm, N, D, I, T⟩ := P0
  refine' method_inst (K := Mine.hd.heap_39 c.w.params) (n := ni) F o.X (InstAt.of_news N (.tail _ (.tail _ (.head _))) (.tail _ (.tail _ (.tail _ (.head _))))) ?k1 ?k2 ?k3 I.rd k
  case k1 => k_is
  case k2 => k_is
  case k3 => k_is
theorem news_io {g : Heap} {L : Addr} {h : Heap} {a b d e : Addr × Obj} {r : List (Addr × Obj)} (N : News g L h (a :: b :: d :: e :: r)) : News g L h (d :: e :: a :: b :: r) := news_sub N fun p hp => by
  simp only [List.mem_cons] at hp ⊢
  rcases hp with h | h | h | h | h
  · exact .inr (.inr (.inl h))
  · exact .inr (.inr (.inr (.inl h)))
  · exact .inl h
  · exact .inr (.inl h)
  · exact .inr (.inr (.inr (.inr h)))
theorem io_read {t1 : Tok} {Q : Value → Shared → Prop} (o : c.Ok) (hord : c.dio < c.io) (am : Amb c.w mg mb mean 3 A A₀ base c.g env outer c.L) (P0 : LexSt c l st tok pos pbk s)
    (k0 : ∀ t s', c.tx[pos]? = none → LexSt c l st tok pos pbk s' → Q (.str (S []) t) s') (k1 : ∀ n t s', c.tx[pos]? = some n → LexSt c l st tok (pos + 1) pbk s' → Q (.str (S [n]) t) s') :
    wpAny (model Challenge.rw_mq0398_01.row.prog c.w) A (call (.ref 538) [.ref c.io, .int 1 t1]) Q E s := by
  obtain ⟨h, tk, m, es, ne, ei, ni, kk, ts, rfl, F, hm, N, D, I, T⟩ := P0
  obtain ⟨tb, hb⟩ := I.buf
  obtain ⟨tp, hp⟩ := I.ps
  refine by_code (read_spec I.fit I.le (am.less (by decide)) F (news_io N) hord ?_ (by have := I.len; omega) hb hp I.chk ?_ ?_)
  · intro p hp
    rcases List.mem_cons.mp hp with rfl | hp
    · exact o.d2
    · rcases List.mem_cons.mp hp with rfl | hp
      · exact o.d5
      · exact o.rest_dio p hp
  · intro t' h' tk' hn F' N'
    exact k0 t' _ hn ⟨h', tk', m, es, ne, ei, ni, kk, ts, rfl, F', hm, news_io N', D, I, T⟩
  · intro n t' ei' ni' t2 h' tk' hn F' N' hl' hb' hp' hc' hr'
    refine k1 n t' _ hn ⟨h', tk', m, es, ne, ei', ni', kk, ts, rfl, F', hm, news_io N', D, ⟨hl' ▸ I.len, ⟨_, hb'⟩, ⟨_, hp'⟩, hc', hr'.trans I.rd, ?_, I.fit⟩, T⟩
    obtain ⟨q, _⟩ := List.getElem?_eq_some_iff.mp hn
    have e : (S c.tx).length = c.tx.length := by simp [Str.length]
    rw [e]; exact q
end
end Mine
/-! L6 -/
namespace Mine
open PySem PySem.W PySem.Calls PyProof.Rows PySem.Spec
theorem fill_l6 : ∀ (w : World) (h : Heap), (Mine.hd.heap_39 w.params).In h → PySem.Challenge.rw_mq0398_01.row.prog = PySem.Challenge.rw_mq0398_01.row.prog := by
  k_fill
  intros; rfl
section
variable {c : LC} {A A₀ : Around} {E : Value → Shared → Prop} {s : Shared} {l : List (Str × Value)} {st st' : Sta} {tok tok' : List Nat} {pos : Nat} {pbk : List Nat} {cn : Str} {cs : Scope} {f : Addr} {ccd : Value}

theorem c_str {x : Str} {kk : Nat} {p : Pos} {env : Env} {Q : Value → Shared → Prop} (P0 : LexSt c l st tok pos pbk s) (k : ∀ t s', LexSt c l st tok pos pbk s' → Q (.str x t) s') :
    wpAny (model Challenge.rw_mq0398_01.row.prog c.w) A (eval (.Constant (.str x) kk p) env) Q E s := wpAny_Constant_str (k _ _ P0.toks)
theorem c_int {x : Int} {kk : Nat} {p : Pos} {env : Env} {Q : Value → Shared → Prop} (P0 : LexSt c l st tok pos pbk s) (k : ∀ t s', LexSt c l st tok pos pbk s' → Q (.int x t) s') :
    wpAny (model Challenge.rw_mq0398_01.row.prog c.w) A (eval (.Constant (.int x) kk p) env) Q E s := wpAny_Constant_int (k _ _ P0.toks)
theorem t_str {x : List Nat} {t : Tok} {Q : Bool → Shared → Prop} (hfit : x.length ≤ 100000) (P0 : LexSt c l st tok pos pbk s) (k : ∀ s', LexSt c l st tok pos pbk s' → Q (!x.isEmpty) s') :
    wpAny (model Challenge.rw_mq0398_01.row.prog c.w) A (truthy (.str (S x) t)) Q E s := by
  have e : (S x).length = x.length := by simp [Str.length]
  refine PySem.P.truthy_str (by rw [e]; omega) ?_
  have : (((S x).length : Int) != 0) = !x.isEmpty := by
    rw [e]
    cases x with
    | nil => rfl
    | cons a r => exact bne_iff_ne.mpr (by rw [List.length_cons]; omega)
  rw [this]
  exact k _ P0.toks
theorem add_tok {a b : List Nat} {t u : Tok} {Q : Value → Shared → Prop} (hfit : a.length + b.length ≤ 100000) (P0 : LexSt c l st tok pos pbk s) (k : ∀ t s', LexSt c l st tok pos pbk s' → Q (.str (S (a ++ b)) t) s') :
    wpAny (model Challenge.rw_mq0398_01.row.prog c.w) A (inplaceOp .Add (.str (S a) t) (.str (S b) u)) Q E s :=
  PySem.SB.iadd (fun t' kk => by rw [S_app]; exact k t' _ P0.toks) (by simp [Str.length, sizeLine]; omega)
theorem aug_lineno {p p2 p3 p4 : Pos} {kk : Nat} {Q : Flow → Shared → Prop} (o : c.Ok) (P0 : LexSt c l st tok pos pbk s) (hs : (Str.ofString "self", Value.ref c.x) ∈ l) (k : ∀ s', LexSt c l st tok pos pbk s' → Q .next s')
    (hk : cs.kind = .function := by rfl) (hl : (envOf cn cs c.L f ccd).kindOf (Str.ofString "self") = some .local := by rfl) :
    wpAny (model Challenge.rw_mq0398_01.row.prog c.w) A (exec (.AugAssign (.Attribute (.Name (Str.ofString "self") p) (Str.ofString "lineno") p2) .Add (.Constant (.int 1) kk p3) p4) (envOf cn cs c.L f ccd)) Q E s := by
  refine wpAny_AugAssign_AttributeAny (lex_self P0 hs ?_ hk hl)
  refine lex_get (P := fun v => ∃ n t, v = .int n t) o P0 (fun es D => let ⟨n, t, h⟩ := D.lineno; ⟨_, h, n, t, rfl⟩) (fun v h => by obtain ⟨n, t, rfl⟩ := h; rfl) (by k_is) fun v s' hv P => ?_
  obtain ⟨n, t, rfl⟩ := hv
  refine c_int P fun t2 s2 P2 => ?_
  refine iadd_int ?_
  exact set_lineno o P2.toks fun s3 P3 => k s3 P3
theorem aug_token {p p2 p3 p4 : Pos} {n : Nat} {t : Tok} {x : Str} {Q : Flow → Shared → Prop} (o : c.Ok) (P0 : LexSt c l st tok pos pbk s) (hs : (Str.ofString "self", Value.ref c.x) ∈ l) (hn : (x, Value.str (S [n]) t) ∈ l) (hz : tok.length ≤ 10000)
    (k : ∀ s', LexSt c l st (tok ++ [n]) pos pbk s' → Q .next s')
    (hk : cs.kind = .function := by rfl) (hl : (envOf cn cs c.L f ccd).kindOf (Str.ofString "self") = some .local := by rfl) (hl2 : (envOf cn cs c.L f ccd).kindOf x = some .local := by rfl) (hd : (x == ("__debug__" : Str)) = false := by decide) :
    wpAny (model Challenge.rw_mq0398_01.row.prog c.w) A (exec (.AugAssign (.Attribute (.Name (Str.ofString "self") p) (Str.ofString "token") p2) .Add (.Name x p3) p4) (envOf cn cs c.L f ccd)) Q E s := by
  refine wpAny_AugAssign_AttributeAny (lex_self P0 hs ?_ hk hl)
  refine lex_get (P := fun v => ∃ t, v = .str (S tok) t) o P0 (fun es D => let ⟨t, h⟩ := D.token; ⟨_, h, t, rfl⟩) (fun v h => by obtain ⟨t, rfl⟩ := h; rfl) (by k_is) fun v s' hv P => ?_
  obtain ⟨t, rfl⟩ := hv
  refine lex_self P hn ?_ hk hl2 hd
  refine add_tok (by simp; omega) P fun t3 s3 P3 => ?_
  exact set_token rfl o P3 fun s4 P4 => k s4 P4
theorem aug_token_esc {p p2 p3 p4 p5 : Pos} {Q : Flow → Shared → Prop} (o : c.Ok) (P0 : LexSt c l .esc tok pos pbk s) (hs : (Str.ofString "self", Value.ref c.x) ∈ l) (hz : tok.length ≤ 10000)
    (k : ∀ s', LexSt c l .esc (tok ++ [92]) pos pbk s' → Q .next s')
    (hk : cs.kind = .function := by rfl) (hl : (envOf cn cs c.L f ccd).kindOf (Str.ofString "self") = some .local := by rfl) :
    wpAny (model Challenge.rw_mq0398_01.row.prog c.w) A (exec (.AugAssign (.Attribute (.Name (Str.ofString "self") p) (Str.ofString "token") p2) .Add (.Attribute (.Name (Str.ofString "self") p3) (Str.ofString "state") p5) p4) (envOf cn cs c.L f ccd)) Q E s := by
  refine wpAny_AugAssign_AttributeAny (lex_self P0 hs ?_ hk hl)
  refine lex_get (P := fun v => ∃ t, v = .str (S tok) t) o P0 (fun es D => let ⟨t, h⟩ := D.token; ⟨_, h, t, rfl⟩) (fun v h => by obtain ⟨t, rfl⟩ := h; rfl) (by k_is) fun v s' hv P => ?_
  obtain ⟨t, rfl⟩ := hv
  refine at_state o P hs (fun t2 s2 P2 => ?_) hk hl
  refine add_tok (by simp; omega) P2 fun t3 s3 P3 => ?_
  exact set_token rfl o P3 fun s4 P4 => k s4 P4
theorem LexSt.push {ob : Obj} (P0 : LexSt c l st tok pos pbk s) : LexSt c l st tok pos pbk { s with heap := s.heap.push ob } := by
  obtain ⟨h, tk, m, es, ne, ei, ni, kk, ts, rfl, F, hm, N, D, I, T⟩ := P0
  exact ⟨h.push ob, tk, m, es, ne, ei, ni, kk, ts, rfl, F.push ob, hm, fun p hp => ⟨Heap.get?_push_of_some _ (N p hp).1, (N p hp).2⟩, D, I, T⟩
/-- self.state in ('a', 'c') -/
theorem st_in_ac {p p2 p3 p4 p5 : Pos} {k1 k2 k3 : Nat} {whole : Sem Value} {Q : Bool → Shared → Prop} (o : c.Ok) (P0 : LexSt c l st tok pos pbk s) (hs : (Str.ofString "self", Value.ref c.x) ∈ l) (hne : st ≠ .no)
    (k : ∀ s', LexSt c l st tok pos pbk s' → Q (decide (st = .a ∨ st = .c)) s')
    (hk : cs.kind = .function := by rfl) (hl : (envOf cn cs c.L f ccd).kindOf (Str.ofString "self") = some .local := by rfl) {p6 : Pos} :
    wpAny (model Challenge.rw_mq0398_01.row.prog c.w) A (PySem.isTrue (.Compare (.Attribute (.Name (Str.ofString "self") p) (Str.ofString "state") p2) [.In] [.Tuple [.Constant (.str (Str.ofString "a")) k1 p3, .Constant (.str (Str.ofString "c")) k2 p4] k3 p5] p6) (envOf cn cs c.L f ccd) whole) Q E s := by
  refine wpAny_isTrue_Compare1 ?_
  refine at_state o P0 hs (fun t s1 P1 => ?_) hk hl
  refine wpAny_Tuple (wpAny_items_cons (c_str P1 fun t2 s2 P2 => wpAny_items_cons (c_str P2 fun t3 s3 P3 => wpAny_items_nil ⟨by show 2 ≤ sizeLine; decide, ?_⟩)))
  have P4 := P3.push (ob := { cls := .type "tuple", data := .seq [Value.str (Str.ofString "a") t2, Value.str (Str.ofString "c") t3].toArray })
  have hT : IsTup (s3.heap.push { cls := .type "tuple", data := .seq [Value.str (Str.ofString "a") t2, Value.str (Str.ofString "c") t3].toArray }) s3.heap.objs.size [Value.str (Str.ofString "a") t2, Value.str (Str.ofString "c") t3].toArray :=
    ⟨_, Heap.get?_push_size _ rfl, rfl, _, rfl⟩
  have hS : StrsAre [Value.str (Str.ofString "a") t2, Value.str (Str.ofString "c") t3].toArray.toList [Str.ofString "a", Str.ofString "c"] := .cons _ _ (.cons _ _ .nil)
  have fin : ∀ (y : List Nat) (u : Tok), st.val t = .str (S y) u → ([Str.ofString "a", Str.ofString "c"].any (· == S y)) = decide (st = .a ∨ st = .c) →
      wpAny (model Challenge.rw_mq0398_01.row.prog c.w) A (compareOp .In (st.val t) (.ref s3.heap.objs.size)) (fun v s' => wpAny (model Challenge.rw_mq0398_01.row.prog c.w) A (truthy v) Q E s') E { s3 with heap := s3.heap.push { cls := .type "tuple", data := .seq [Value.str (Str.ofString "a") t2, Value.str (Str.ofString "c") t3].toArray } } := by
    intro y u e1 e2
    rw [e1]
    refine in_tuple_strs hT hS (wpAny_truthy_bool ?_)
    rw [e2]
    exact k _ P4
  cases st with
  | no => exact absurd rfl hne
  | sp => exact fin [32] t rfl (by decide +kernel)
  | a => exact fin [97] t rfl (by decide +kernel)
  | c => exact fin [99] t rfl (by decide +kernel)
  | q => exact fin [34] t rfl (by decide +kernel)
  | esc => exact fin [92] t rfl (by decide +kernel)
theorem at_com_L {p p2 : Pos} {Q : Value → Shared → Prop} (hx : c.lx = true) (o : c.Ok) (P0 : LexSt c l st tok pos pbk s) (hs : (Str.ofString "self", Value.ref c.x) ∈ l) (k : ∀ t s', LexSt c l st tok pos pbk s' → Q (.str (S [35]) t) s')
    (hk : cs.kind = .function := by rfl) (hl : (envOf cn cs c.L f ccd).kindOf (Str.ofString "self") = some .local := by rfl) :
    wpAny (model Challenge.rw_mq0398_01.row.prog c.w) A (eval (.Attribute (.Name (Str.ofString "self") p) (Str.ofString "commenters") p2) (envOf cn cs c.L f ccd)) Q E s :=
  at_commenters o P0 hs (fun t s' P => by rw [LC.com_L hx]; exact k t s' P) hk hl
theorem at_com_S {p p2 : Pos} {Q : Value → Shared → Prop} (hx : c.lx = false) (o : c.Ok) (P0 : LexSt c l st tok pos pbk s) (hs : (Str.ofString "self", Value.ref c.x) ∈ l) (k : ∀ t s', LexSt c l st tok pos pbk s' → Q (.str (S []) t) s')
    (hk : cs.kind = .function := by rfl) (hl : (envOf cn cs c.L f ccd).kindOf (Str.ofString "self") = some .local := by rfl) :
    wpAny (model Challenge.rw_mq0398_01.row.prog c.w) A (eval (.Attribute (.Name (Str.ofString "self") p) (Str.ofString "commenters") p2) (envOf cn cs c.L f ccd)) Q E s :=
  at_commenters o P0 hs (fun t s' P => by rw [LC.com_S hx]; exact k t s' P) hk hl
theorem at_wcs_L {p p2 : Pos} {Q : Value → Shared → Prop} (hx : c.lx = true) (o : c.Ok) (P0 : LexSt c l st tok pos pbk s) (hs : (Str.ofString "self", Value.ref c.x) ∈ l) (k : ∀ t s', LexSt c l st tok pos pbk s' → Q (.str (S wcL) t) s')
    (hk : cs.kind = .function := by rfl) (hl : (envOf cn cs c.L f ccd).kindOf (Str.ofString "self") = some .local := by rfl) :
    wpAny (model Challenge.rw_mq0398_01.row.prog c.w) A (eval (.Attribute (.Name (Str.ofString "self") p) (Str.ofString "wordchars") p2) (envOf cn cs c.L f ccd)) Q E s :=
  at_wordchars o P0 hs (fun t s' P => by rw [LC.wc_L hx]; exact k t s' P) hk hl
theorem at_wcs_S {p p2 : Pos} {Q : Value → Shared → Prop} (hx : c.lx = false) (o : c.Ok) (P0 : LexSt c l st tok pos pbk s) (hs : (Str.ofString "self", Value.ref c.x) ∈ l) (k : ∀ t s', LexSt c l st tok pos pbk s' → Q (.str (S wcS) t) s')
    (hk : cs.kind = .function := by rfl) (hl : (envOf cn cs c.L f ccd).kindOf (Str.ofString "self") = some .local := by rfl) :
    wpAny (model Challenge.rw_mq0398_01.row.prog c.w) A (eval (.Attribute (.Name (Str.ofString "self") p) (Str.ofString "wordchars") p2) (envOf cn cs c.L f ccd)) Q E s :=
  at_wordchars o P0 hs (fun t s' P => by rw [LC.wc_S hx]; exact k t s' P) hk hl
theorem at_pun_L {mg mb : Str → Option Value} {mean : ExcName → Option Value} {base : Heap} {env : Env} {outer : List Env} {p p2 : Pos} {Q : Value → Shared → Prop} (hx : c.lx = true) (am : Amb c.w mg mb mean 2 A A₀ base c.g env outer c.L) (P0 : LexSt c l st tok pos pbk s) (hs : (Str.ofString "self", Value.ref c.x) ∈ l) (k : ∀ t s', LexSt c l st tok pos pbk s' → Q (.str (S [44]) t) s')
    (hk : cs.kind = .function := by rfl) (hl : (envOf cn cs c.L f ccd).kindOf (Str.ofString "self") = some .local := by rfl) :
    wpAny (model Challenge.rw_mq0398_01.row.prog c.w) A (eval (.Attribute (.Name (Str.ofString "self") p) (Str.ofString "punctuation_chars") p2) (envOf cn cs c.L f ccd)) Q E s :=
  at_pun am P0 hs (fun t s' P => by rw [LC.pun_L hx]; exact k t s' P) hk hl
theorem at_pun_S {mg mb : Str → Option Value} {mean : ExcName → Option Value} {base : Heap} {env : Env} {outer : List Env} {p p2 : Pos} {Q : Value → Shared → Prop} (hx : c.lx = false) (am : Amb c.w mg mb mean 2 A A₀ base c.g env outer c.L) (P0 : LexSt c l st tok pos pbk s) (hs : (Str.ofString "self", Value.ref c.x) ∈ l) (k : ∀ t s', LexSt c l st tok pos pbk s' → Q (.str (S []) t) s')
    (hk : cs.kind = .function := by rfl) (hl : (envOf cn cs c.L f ccd).kindOf (Str.ofString "self") = some .local := by rfl) :
    wpAny (model Challenge.rw_mq0398_01.row.prog c.w) A (eval (.Attribute (.Name (Str.ofString "self") p) (Str.ofString "punctuation_chars") p2) (envOf cn cs c.L f ccd)) Q E s :=
  at_pun am P0 hs (fun t s' P => by rw [LC.pun_S hx]; exact k t s' P) hk hl
theorem at_wsp_L {p p2 : Pos} {Q : Value → Shared → Prop} (hx : c.lx = true) (o : c.Ok) (P0 : LexSt c l st tok pos pbk s) (hs : (Str.ofString "self", Value.ref c.x) ∈ l) (k : ∀ s', LexSt c l st tok pos pbk s' → Q (.bool false) s')
    (hk : cs.kind = .function := by rfl) (hl : (envOf cn cs c.L f ccd).kindOf (Str.ofString "self") = some .local := by rfl) :
    wpAny (model Challenge.rw_mq0398_01.row.prog c.w) A (eval (.Attribute (.Name (Str.ofString "self") p) (Str.ofString "whitespace_split") p2) (envOf cn cs c.L f ccd)) Q E s :=
  at_whitespace_split o P0 hs (fun s' P => by rw [show c.wsp = false from by unfold LC.wsp; rw [hx]; rfl]; exact k s' P) hk hl
theorem at_wsp_S {p p2 : Pos} {Q : Value → Shared → Prop} (hx : c.lx = false) (o : c.Ok) (P0 : LexSt c l st tok pos pbk s) (hs : (Str.ofString "self", Value.ref c.x) ∈ l) (k : ∀ s', LexSt c l st tok pos pbk s' → Q (.bool true) s')
    (hk : cs.kind = .function := by rfl) (hl : (envOf cn cs c.L f ccd).kindOf (Str.ofString "self") = some .local := by rfl) :
    wpAny (model Challenge.rw_mq0398_01.row.prog c.w) A (eval (.Attribute (.Name (Str.ofString "self") p) (Str.ofString "whitespace_split") p2) (envOf cn cs c.L f ccd)) Q E s :=
  at_whitespace_split o P0 hs (fun s' P => by rw [show c.wsp = true from by unfold LC.wsp; rw [hx]; rfl]; exact k s' P) hk hl
end
end Mine
/-! M0 -/
namespace Mine
inductive Cl where
  | ws | comma | quote | esc | bare | bad
  deriving DecidableEq
noncomputable def cls (n : Nat) : Cl :=
  if n = 32 ∨ n = 9 ∨ n = 10 ∨ n = 13 then .ws else if n = 44 then .comma else if n = 34 then .quote else if n = 92 then .esc
  else if n = 97 ∨ n = 90 ∨ n = 55 ∨ n = 61 ∨ n = 45 ∨ n = 46 then .bare else .bad
inductive Out where
  | go (st : Sta) (tok : List Nat) (q : Bool) (est : Sta)
  | brk (st : Sta) (tok : List Nat) (q : Bool)
  | back (st : Sta) (tok : List Nat) (q : Bool)
  | err (esc : Bool)
  | bad
noncomputable def emit (tok : List Nat) (q : Bool) : Bool := !tok.isEmpty || q
/-- one turn of read_token's loop -/
noncomputable def turn (lx : Bool) (st : Sta) (tok : List Nat) (q : Bool) (est : Sta) (next : Option Nat) : Out :=
  match st with
  | .no => .brk .no [] q
  | .sp => match next with
    | none => .brk .no tok q
    | some n => match cls n with
      | .ws => if emit tok q then .brk .sp tok q else .go .sp tok q est
      | .esc => .go .esc tok q .a
      | .bare => .go .a [n] q est
      | .comma => .go (if lx then .c else .a) [n] q est
      | .quote => .go .q tok q est
      | .bad => .bad
  | .q => match next with
    | none => .err false
    | some n => if n = 34 then .go .a tok true est else if n = 92 then .go .esc tok true .q else .go .q (tok ++ [n]) true est
  | .esc => match next with
    | none => .err true
    | some n => if est = .q ∧ n ≠ 92 ∧ n ≠ 34 then .go est (tok ++ [92] ++ [n]) q est else .go est (tok ++ [n]) q est
  | .a => match next with
    | none => .brk .no tok q
    | some n => match cls n with
      | .ws => if emit tok q then .brk .sp tok q else .go .sp tok q est
      | .quote => .go .q tok q est
      | .esc => .go .esc tok q .a
      | .bare => .go .a (tok ++ [n]) q est
      | .comma => if lx then (if emit tok q then .back .sp tok q else .bad) else .go .a (tok ++ [n]) q est
      | .bad => .bad
  | .c => match next with
    | none => .brk .no tok q
    | some n => match cls n with
      | .ws => if emit tok q then .brk .sp tok q else .go .sp tok q est
      | .comma => .go .c (tok ++ [n]) q est
      | .bad => .bad
      | _ => .back .sp tok q
inductive TokRes where
  | done (st : Sta) (tok : List Nat) (q : Bool) (inp : List Nat)
  | fail (esc : Bool)
  | bad
noncomputable def runTok (lx : Bool) : Sta → List Nat → Bool → Sta → List Nat → TokRes
  | st, tok, q, est, [] => match turn lx st tok q est none with
    | .brk st' tok' q' => .done st' tok' q' []
    | .err e => .fail e
    | _ => .bad
  | st, tok, q, est, n :: r => match turn lx st tok q est (some n) with
    | .go st' tok' q' est' => runTok lx st' tok' q' est' r
    | .brk st' tok' q' => .done st' tok' q' r
    | .back st' tok' q' => .done st' tok' q' (n :: r)
    | .err e => .fail e
    | .bad => .bad
end Mine
/-! PL -/
namespace Mine

/-- one piece, from outside or inside of marks to there -/
inductive Pie : Bool → Pc → Bool → Prop
  | bare {c : Nat} (h : cls c = .bare) : Pie false ⟨[c], [c], [c], 0⟩ false
  | comma : Pie false ⟨[44], [], [44], 1⟩ false
  | ws {c : Nat} (h : cls c = .ws) : Pie false ⟨[c], [c], [], 2⟩ false
  | opn : Pie false ⟨[34], [34], [], 0⟩ true
  | esc {c : Nat} (h1 : c ≠ 44) (h2 : c ≠ 34) : Pie false ⟨[92, c], [92, c], [c], 0⟩ false
  | emp : Pie false ⟨[34, 34], [34, 34], [], 0⟩ false
  | plain {c : Nat} (h1 : c ≠ 34) (h2 : c ≠ 92) : Pie true ⟨[c], [c], [c], 0⟩ true
  | inq : Pie true ⟨[92, 34], [34], [34], 0⟩ true
  | inb : Pie true ⟨[92, 92], [92], [92], 0⟩ true
  | ino {c : Nat} (h1 : c ≠ 34) (h2 : c ≠ 92) : Pie true ⟨[92, c], [c], [92, c], 0⟩ true
  | cls : Pie true ⟨[34], [34], [], 0⟩ false
inductive Good : Bool → List Pc → Bool → Prop
  | nil {b : Bool} : Good b [] b
  | one {b b' b'' : Bool} {x : Pc} {row : List Pc} (h : Pie b x b') (g : Good b' row b'') : Good b (x :: row) b''
  | escc {b : Bool} {row : List Pc} (g : Good false row b) : Good false (⟨[92], [92], [], 0⟩ :: ⟨[44], [], [44], 3⟩ :: row) b
theorem Good.append {b b' b'' : Bool} {r1 r2 : List Pc} (h : Good b r1 b') (g : Good b' r2 b'') : Good b (r1 ++ r2) b'' := by
  induction h with
  | nil => exact g
  | one h _ ih => exact .one h (ih g)
  | escc _ ih => exact .escc (ih g)
theorem getD_mem {l : List Nat} {i : Nat} (h : i < l.length) : l.getD i 0 ∈ l := by
  rw [List.getD_eq_getElem?_getD, List.getElem?_eq_getElem h]; exact List.getElem_mem h
theorem fm_lt {x : Int} {k : Nat} (h : 0 < k) : (x.fmod k).toNat < k := by
  have h1 := Int.fmod_nonneg_of_pos x (b := (k : Int)) (by omega)
  have h2 := Int.fmod_lt_of_pos x (b := (k : Int)) (by omega)
  omega
theorem all_mem {P : Nat → Prop} {l : List Nat} (h : ∀ c ∈ l, P c) {i : Nat} (hi : i < l.length) : P (l.getD i 0) := h _ (getD_mem hi)
theorem outside_good (k m : Int) (h0 : 0 ≤ k) (h16 : k < 16) : Good false (outsideF k m) (decide (8 ≤ k) && decide (k < 12)) := by
  unfold outsideF
  dsimp only
  split
  · rw [decide_eq_false (by omega)]
    exact .one (.bare (all_mem (P := fun c => cls c = .bare) (l := [97, 90, 55, 61, 45, 46]) (by decide) (fm_lt (k := 6) (by decide)))) .nil
  split
  · rw [decide_eq_false (by omega)]; exact .one .comma .nil
  split
  · rw [decide_eq_false (by omega)]
    exact .one (.ws (all_mem (P := fun c => cls c = .ws) (l := [32, 9, 10, 13]) (by decide) (fm_lt (k := 4) (by decide)))) .nil
  split
  · rw [decide_eq_true (by omega), decide_eq_true (by omega)]; exact .one .opn .nil
  have e : (decide (8 ≤ k) && decide (k < 12)) = false := by rw [decide_eq_false (p := k < 12) (by omega), Bool.and_false]
  rw [e]
  split
  · have h34 := all_mem (P := fun c => c ≠ 34) (l := [97, 44, 32, 92, 39, 35, 10, 61]) (by decide) (fm_lt (x := m) (k := 8) (by decide))
    split
    · exact .escc .nil
    · rename_i h; exact .one (.esc h h34) .nil
  split
  · exact .one .emp .nil
  · exact .one .comma (.one (.ws rfl) .nil)
theorem inside_good (k m : Int) (h16 : k < 16) : Good true [insideF k m] (decide (k < 11)) := by
  unfold insideF
  dsimp only
  split
  · rw [decide_eq_true (by omega)]
    have h := all_mem (P := fun c => c ≠ 34 ∧ c ≠ 92) (l := [97, 44, 32, 39, 35, 61, 59, 10]) (by decide) (fm_lt (x := m) (k := 8) (by decide))
    exact .one (.plain h.1 h.2) .nil
  split
  · rw [decide_eq_true (by omega)]
    refine .one (.plain ?_ ?_) .nil <;> (split <;> omega)
  split
  · rw [decide_eq_true (by omega)]; exact .one .inq .nil
  split
  · rw [decide_eq_true (by omega)]; exact .one .inb .nil
  split
  · rw [decide_eq_true (by omega)]
    have h := all_mem (P := fun c => c ≠ 34 ∧ c ≠ 92) (l := [97, 44, 32, 39, 10]) (by decide) (fm_lt (x := m) (k := 5) (by decide))
    exact .one (.ino h.1 h.2) .nil
  · rw [decide_eq_false (by omega)]; exact .one .cls .nil
theorem row_good (xs : List Int) : Good false (rowF xs).1 (rowF xs).2 := by
  have key : ∀ (ys : List Int) (st : List Pc × Bool), Good false st.1 st.2 → Good false (ys.foldl rowStep st).1 (ys.foldl rowStep st).2 := by
    intro ys
    induction ys with
    | nil => intro st h; exact h
    | cons y r ih =>
      intro st h
      refine ih _ ?_
      have a := Int.fmod_nonneg_of_pos y (b := 16) (by decide)
      have b := Int.fmod_lt_of_pos y (b := 16) (by decide)
      unfold rowStep
      split
      · rename_i e
        rw [e] at h
        exact h.append (inside_good _ _ b)
      · rename_i e
        rw [Bool.not_eq_true] at e
        rw [e] at h
        exact h.append (outside_good _ _ a b)
  exact key xs ([], false) .nil

/-- the text of a row -/
noncomputable def textF (row : List Pc) : List Nat := (row.map Pc.t).flatten
noncomputable def joinP (row : List Pc) : List Nat := (row.map Pc.p).flatten
noncomputable def joinW (row : List Pc) : List Nat := (row.map Pc.w).flatten
/-- _law_cut: what is done, what is open -/
noncomputable def cutStep (roles : List Int) (s : List (List Pc) × List Pc) (x : Pc) : List (List Pc) × List Pc :=
  if x.r ∈ roles then (s.1 ++ [s.2], []) else (s.1, s.2 ++ [x])
noncomputable def cutF (roles : List Int) (row : List Pc) : List (List Pc) × List Pc := row.foldl (cutStep roles) ([], [])
noncomputable def cutL (roles : List Int) (row : List Pc) : List (List Pc) := (cutF roles row).1 ++ [(cutF roles row).2]

/-! parse_http_list -/
structure PS where
  res : List (List Nat)
  part : List Nat
  esc : Bool
  quo : Bool
noncomputable def pStep (s : PS) (c : Nat) : PS :=
  if s.esc = true then ⟨s.res, s.part ++ [c], false, s.quo⟩
  else if s.quo = true then
    if c = 92 then ⟨s.res, s.part, true, s.quo⟩
    else if c = 34 then ⟨s.res, s.part ++ [c], s.esc, false⟩
    else ⟨s.res, s.part ++ [c], s.esc, s.quo⟩
  else if c = 44 then ⟨s.res ++ [s.part], [], s.esc, s.quo⟩
  else if c = 34 then ⟨s.res, s.part ++ [c], s.esc, true⟩
  else ⟨s.res, s.part ++ [c], s.esc, s.quo⟩
noncomputable def pEnd (s : PS) : List (List Nat) := if s.part = [] then s.res else s.res ++ [s.part]
noncomputable def parseF (t : List Nat) : List (List Nat) := pEnd (t.foldl pStep ⟨[], [], false, false⟩)
/-- the items that the law asks for -/
noncomputable def itemsF (row : List Pc) : List (List Nat) :=
  let c := cutF [1, 3] row
  if joinP c.2 = [] then c.1.map joinP else c.1.map joinP ++ [joinP c.2]
theorem joinP_snoc (l : List Pc) (x : Pc) : joinP (l ++ [x]) = joinP l ++ x.p := by simp [joinP]
theorem joinW_snoc (l : List Pc) (x : Pc) : joinW (l ++ [x]) = joinW l ++ x.w := by simp [joinW]
noncomputable def psOf (b : Bool) (c : List (List Pc) × List Pc) : PS := ⟨c.1.map joinP, joinP c.2, false, b⟩
theorem cls_bare {c : Nat} (h : cls c = .bare) : c = 97 ∨ c = 90 ∨ c = 55 ∨ c = 61 ∨ c = 45 ∨ c = 46 := by
  unfold cls at h
  repeat' split at h
  all_goals first | assumption | cases h
theorem cls_ws {c : Nat} (h : cls c = .ws) : c = 32 ∨ c = 9 ∨ c = 10 ∨ c = 13 := by
  unfold cls at h
  repeat' split at h
  all_goals first | assumption | cases h
theorem pie_parse {b b' : Bool} {x : Pc} (h : Pie b x b') (c : List (List Pc) × List Pc) : x.t.foldl pStep (psOf b c) = psOf b' (cutStep [1, 3] c x) := by
  cases h with
  | @bare n h =>
    have := cls_bare h
    simp [psOf, pStep, cutStep, joinP, show ¬ n = 44 from by omega, show ¬ n = 34 from by omega]
  | comma => simp [psOf, pStep, cutStep, joinP]
  | @ws n h =>
    have := cls_ws h
    simp [psOf, pStep, cutStep, joinP, show ¬ n = 44 from by omega, show ¬ n = 34 from by omega]
  | opn => simp [psOf, pStep, cutStep, joinP]
  | esc h1 h2 => simp [psOf, pStep, cutStep, joinP, h1, h2]
  | emp => simp [psOf, pStep, cutStep, joinP]
  | plain h1 h2 => simp [psOf, pStep, cutStep, joinP, h1, h2]
  | inq => simp [psOf, pStep, cutStep, joinP]
  | inb => simp [psOf, pStep, cutStep, joinP]
  | ino h1 h2 => simp [psOf, pStep, cutStep, joinP]
  | cls => simp [psOf, pStep, cutStep, joinP]
theorem textF_cons (x : Pc) (r : List Pc) : textF (x :: r) = x.t ++ textF r := by simp [textF]
theorem textF_append (a b : List Pc) : textF (a ++ b) = textF a ++ textF b := by simp [textF]
theorem good_parse {b b' : Bool} {row : List Pc} (h : Good b row b') : ∀ c : List (List Pc) × List Pc, (textF row).foldl pStep (psOf b c) = psOf b' (row.foldl (cutStep [1, 3]) c) := by
  induction h with
  | nil => intro c; rfl
  | one h _ ih => intro c; rw [textF_cons, List.foldl_append, pie_parse h, ih, List.foldl_cons]
  | escc _ ih =>
    intro c
    have e : ([92, 44] : List Nat).foldl pStep (psOf false c) = psOf false (cutStep [1, 3] (cutStep [1, 3] c ⟨[92], [92], [], 0⟩) ⟨[44], [], [44], 3⟩) := by simp [psOf, pStep, cutStep, joinP]
    rw [textF_cons, textF_cons, ← List.append_assoc, List.foldl_append]
    rw [show ([92] : List Nat) ++ [44] = [92, 44] from rfl, e, ih, List.foldl_cons, List.foldl_cons]
/-- a row with its end: whole, or torn -/
inductive Whole : List Pc → Option Bool → Prop
  | fine {row : List Pc} (g : Good false row false) : Whole row none
  | quo {row : List Pc} (g : Good false row true) : Whole row (some false)
  | escO {row : List Pc} (g : Good false row false) : Whole (row ++ [⟨[92], [92], [], 0⟩]) (some true)
  | escI {row : List Pc} (g : Good false row true) : Whole (row ++ [⟨[92], [], [], 0⟩]) (some true)
theorem parse_items {row : List Pc} {e : Option Bool} (h : Whole row e) : parseF (textF row) = itemsF row := by
  have z : ∀ b c, pEnd (psOf b c) = (if joinP c.2 = [] then c.1.map joinP else c.1.map joinP ++ [joinP c.2]) := fun b c => rfl
  have z0 : (⟨[], [], false, false⟩ : PS) = psOf false ([], []) := rfl
  unfold parseF itemsF cutF
  dsimp only
  rw [z0]
  cases h with
  | fine g => rw [good_parse g, z]
  | quo g => rw [good_parse g, z]
  | @escO row g => rw [textF_append, List.foldl_append, good_parse g, List.foldl_append, ← z false]; simp [textF, psOf, pStep, cutStep, joinP]
  | @escI row g =>
    rw [textF_append, List.foldl_append, good_parse g, List.foldl_append]
    generalize row.foldl (cutStep [1, 3]) ([], []) = c
    simp [textF, psOf, pStep, cutStep, joinP, pEnd]

/-! the lexer, all its tokens -/
inductive Lx (lx : Bool) : Sta → List Nat → Bool → Sta → List Nat → List (List Nat) → Option Bool → Prop
  | go {st tok q est n r st' tok' q' est' ts e} (h : turn lx st tok q est (some n) = .go st' tok' q' est') (k : Lx lx st' tok' q' est' r ts e) : Lx lx st tok q est (n :: r) ts e
  | brk {st tok q est n r st' tok' q' ts e} (h : turn lx st tok q est (some n) = .brk st' tok' q') (hm : emit tok' q' = true) (k : Lx lx st' [] false .sp r ts e) : Lx lx st tok q est (n :: r) (tok' :: ts) e
  | back {st tok q est n r st' tok' q' ts e} (h : turn lx st tok q est (some n) = .back st' tok' q') (hm : emit tok' q' = true) (k : Lx lx st' [] false .sp (n :: r) ts e) : Lx lx st tok q est (n :: r) (tok' :: ts) e
  | last {st tok q est st' tok' q' ts e} (h : turn lx st tok q est none = .brk st' tok' q') (hm : emit tok' q' = true) (k : Lx lx st' [] false .sp [] ts e) : Lx lx st tok q est [] (tok' :: ts) e
  | stop {st tok q est st' tok' q'} (h : turn lx st tok q est none = .brk st' tok' q') (hm : emit tok' q' = false) : Lx lx st tok q est [] [] none
  | fail {st tok q est e} (h : turn lx st tok q est none = .err e) : Lx lx st tok q est [] [] (some e)
/-- what read_token gives, of what the lexer gives in all -/
theorem Lx.run {lx : Bool} {st : Sta} {tok : List Nat} {q : Bool} {est : Sta} {inp : List Nat} {ts : List (List Nat)} {e : Option Bool} (h : Lx lx st tok q est inp ts e) :
    (∃ st' tok' q' inp' ts', runTok lx st tok q est inp = .done st' tok' q' inp' ∧ emit tok' q' = true ∧ ts = tok' :: ts' ∧ Lx lx st' [] false .sp inp' ts' e) ∨
    (∃ st' tok' q', runTok lx st tok q est inp = .done st' tok' q' [] ∧ emit tok' q' = false ∧ ts = [] ∧ e = none) ∨
    (∃ x, runTok lx st tok q est inp = .fail x ∧ ts = [] ∧ e = some x) := by
  induction h with
  | go h k ih => unfold runTok; rw [h]; exact ih
  | brk h hm k _ => exact .inl ⟨_, _, _, _, _, by unfold runTok; rw [h], hm, rfl, k⟩
  | back h hm k _ => exact .inl ⟨_, _, _, _, _, by unfold runTok; rw [h], hm, rfl, k⟩
  | last h hm k _ => exact .inl ⟨_, _, _, _, _, by unfold runTok; rw [h], hm, rfl, k⟩
  | stop h hm => exact .inr (.inl ⟨_, _, _, by unfold runTok; rw [h], hm, rfl, rfl⟩)
  | fail h => exact .inr (.inr ⟨_, by unfold runTok; rw [h], rfl, rfl⟩)

/-- a row's words, while the row is read: done, the open one -/
structure SS where
  done : List (List Nat)
  opn : Option (List Nat)
noncomputable def wStep (s : SS) (x : Pc) : SS := if x.r = 2 then ⟨s.done ++ s.opn.toList, none⟩ else ⟨s.done, some (s.opn.getD [] ++ x.w)⟩
/-- where split's lexer stands -/
noncomputable def spSt (b : Bool) (o : Option (List Nat)) (st : Sta) (tok : List Nat) (q : Bool) : Prop :=
  tok = o.getD [] ∧ (if b = true then st = .q ∧ o.isSome = true else match o with
    | none => st = .sp ∧ q = false
    | some _ => st = .a ∧ emit tok q = true)
/-- from a state to one that is ok, over a text: the tokens done in between -/
inductive Way (lx : Bool) (ok : Sta → List Nat → Bool → Prop) (a b : List (List Nat)) (st : Sta) (tok : List Nat) (q : Bool) (t : List Nat) : Prop
  | mk (st' : Sta) (tok' : List Nat) (q' : Bool) (h : ok st' tok' q') (d : List (List Nat)) (hd : b = a ++ d) (k : ∀ rest ts e, (∀ est, Lx lx st' tok' q' est rest ts e) → ∀ est, Lx lx st tok q est (t ++ rest) (d ++ ts) e) : Way lx ok a b st tok q t
theorem emit_snoc (tok : List Nat) (c : Nat) (q : Bool) : emit (tok ++ [c]) q = true := by simp [emit]
theorem emit_q (tok : List Nat) : emit tok true = true := by simp [emit]
theorem cls_at {c : Nat} : (c = 32 ∨ c = 9 ∨ c = 10 ∨ c = 13) → cls c = .ws := fun h => by unfold cls; rw [if_pos h]

theorem pie_split {b b' : Bool} {x : Pc} (h : Pie b x b') {s : SS} {st : Sta} {tok : List Nat} {q : Bool} (hs : spSt b s.opn st tok q) :
    Way false (spSt b' (wStep s x).opn) s.done (wStep s x).done st tok q x.t := by
  obtain ⟨done, o⟩ := s
  obtain ⟨rfl, hs⟩ := hs
  cases h with
  | @bare c h =>
    simp only [Bool.false_eq_true, if_false] at hs
    cases o with
    | none =>
      obtain ⟨rfl, rfl⟩ := hs
      exact ⟨.a, [c], false, ⟨rfl, rfl, rfl⟩, [], by first | rfl | exact (List.append_nil _).symm | simp [wStep], fun rest ts e k est => .go (by simp [turn, h]) (k est)⟩
    | some t =>
      obtain ⟨rfl, hm⟩ := hs
      exact ⟨.a, t ++ [c], q, ⟨rfl, rfl, emit_snoc _ _ _⟩, [], by first | rfl | exact (List.append_nil _).symm | simp [wStep], fun rest ts e k est => .go (by simp [turn, h]) (k est)⟩
  | comma =>
    simp only [Bool.false_eq_true, if_false] at hs
    cases o with
    | none =>
      obtain ⟨rfl, rfl⟩ := hs
      exact ⟨.a, [44], false, ⟨rfl, rfl, rfl⟩, [], by first | rfl | exact (List.append_nil _).symm | simp [wStep], fun rest ts e k est => .go (by first | rfl | simp [turn, cls]) (k est)⟩
    | some t =>
      obtain ⟨rfl, hm⟩ := hs
      exact ⟨.a, t ++ [44], q, ⟨rfl, rfl, emit_snoc _ _ _⟩, [], by first | rfl | exact (List.append_nil _).symm | simp [wStep], fun rest ts e k est => .go (by first | rfl | simp [turn, cls]) (k est)⟩
  | @ws c h =>
    simp only [Bool.false_eq_true, if_false] at hs
    cases o with
    | none =>
      obtain ⟨rfl, rfl⟩ := hs
      exact ⟨.sp, [], false, ⟨rfl, rfl, rfl⟩, [], by first | rfl | exact (List.append_nil _).symm | simp [wStep], fun rest ts e k est => .go (by simp [turn, h, emit]) (k est)⟩
    | some t =>
      obtain ⟨rfl, hm⟩ := hs
      exact ⟨.sp, [], false, ⟨rfl, rfl, rfl⟩, [t], by first | rfl | exact (List.append_nil _).symm | simp [wStep], fun rest ts e k est => .brk (by simp only [turn, h, Option.getD_some]; rw [if_pos (by exact hm)]) hm (k _)⟩
  | opn =>
    simp only [Bool.false_eq_true, if_false] at hs
    cases o with
    | none =>
      obtain ⟨rfl, rfl⟩ := hs
      exact ⟨.q, [], false, ⟨rfl, rfl, rfl⟩, [], by first | rfl | exact (List.append_nil _).symm | simp [wStep], fun rest ts e k est => .go (by first | rfl | simp [turn, cls]) (k est)⟩
    | some t =>
      obtain ⟨rfl, hm⟩ := hs
      exact ⟨.q, t, q, ⟨by simp [wStep], rfl, rfl⟩, [], by first | rfl | exact (List.append_nil _).symm | simp [wStep], fun rest ts e k est => .go (by first | rfl | simp [turn, cls]) (k est)⟩
  | @esc c h1 h2 =>
    simp only [Bool.false_eq_true, if_false] at hs
    cases o with
    | none =>
      obtain ⟨rfl, rfl⟩ := hs
      exact ⟨.a, [c], false, ⟨rfl, rfl, rfl⟩, [], by first | rfl | exact (List.append_nil _).symm | simp [wStep], fun rest ts e k est => .go (st' := .esc) (tok' := []) (q' := false) (est' := .a) (by first | rfl | simp [turn, cls]) (.go (by first | rfl | simp [turn]) (k .a))⟩
    | some t =>
      obtain ⟨rfl, hm⟩ := hs
      exact ⟨.a, t ++ [c], q, ⟨rfl, rfl, emit_snoc _ _ _⟩, [], by first | rfl | exact (List.append_nil _).symm | simp [wStep], fun rest ts e k est => .go (st' := .esc) (tok' := t) (q' := q) (est' := .a) (by first | rfl | simp [turn, cls]) (.go (by first | rfl | simp [turn]) (k .a))⟩
  | emp =>
    simp only [Bool.false_eq_true, if_false] at hs
    cases o with
    | none =>
      obtain ⟨rfl, rfl⟩ := hs
      exact ⟨.a, [], true, ⟨rfl, rfl, rfl⟩, [], by first | rfl | exact (List.append_nil _).symm | simp [wStep], fun rest ts e k est => .go (st' := .q) (tok' := []) (q' := false) (est' := est) (by first | rfl | simp [turn, cls]) (.go (by first | rfl | simp [turn]) (k est))⟩
    | some t =>
      obtain ⟨rfl, hm⟩ := hs
      exact ⟨.a, t, true, ⟨by simp [wStep], rfl, emit_q _⟩, [], by first | rfl | exact (List.append_nil _).symm | simp [wStep], fun rest ts e k est => .go (st' := .q) (tok' := t) (q' := q) (est' := est) (by first | rfl | simp [turn, cls]) (.go (by first | rfl | simp [turn]) (k est))⟩
  | @plain c h1 h2 =>
    simp only [if_true] at hs
    obtain ⟨rfl, ho⟩ := hs
    exact ⟨.q, o.getD [] ++ [c], true, ⟨rfl, rfl, rfl⟩, [], by first | rfl | exact (List.append_nil _).symm | simp [wStep], fun rest ts e k est => .go (by simp [turn, h1, h2]) (k est)⟩
  | inq =>
    simp only [if_true] at hs
    obtain ⟨rfl, ho⟩ := hs
    exact ⟨.q, o.getD [] ++ [34], true, ⟨rfl, rfl, rfl⟩, [], by first | rfl | exact (List.append_nil _).symm | simp [wStep], fun rest ts e k est => .go (st' := .esc) (tok' := o.getD []) (q' := true) (est' := .q) (by first | rfl | simp [turn]) (.go (by first | rfl | simp [turn]) (k .q))⟩
  | inb =>
    simp only [if_true] at hs
    obtain ⟨rfl, ho⟩ := hs
    exact ⟨.q, o.getD [] ++ [92], true, ⟨rfl, rfl, rfl⟩, [], by first | rfl | exact (List.append_nil _).symm | simp [wStep], fun rest ts e k est => .go (st' := .esc) (tok' := o.getD []) (q' := true) (est' := .q) (by first | rfl | simp [turn]) (.go (by first | rfl | simp [turn]) (k .q))⟩
  | @ino c h1 h2 =>
    simp only [if_true] at hs
    obtain ⟨rfl, ho⟩ := hs
    exact ⟨.q, o.getD [] ++ [92, c], true, ⟨rfl, rfl, rfl⟩, [], by first | rfl | exact (List.append_nil _).symm | simp [wStep], fun rest ts e k est => .go (st' := .esc) (tok' := o.getD []) (q' := true) (est' := .q) (by first | rfl | simp [turn]) (.go (st' := .q) (tok' := o.getD [] ++ [92, c]) (q' := true) (est' := .q) (by simp [turn, h1, h2]) (k .q))⟩
  | cls =>
    simp only [if_true] at hs
    obtain ⟨rfl, ho⟩ := hs
    exact ⟨.a, o.getD [], true, ⟨by simp [wStep], rfl, emit_q _⟩, [], by first | rfl | exact (List.append_nil _).symm | simp [wStep], fun rest ts e k est => .go (by first | rfl | simp [turn]) (k est)⟩

theorem good_split {b b' : Bool} {row : List Pc} (h : Good b row b') : ∀ {s : SS} {st : Sta} {tok : List Nat} {q : Bool}, spSt b s.opn st tok q →
    Way false (spSt b' (row.foldl wStep s).opn) s.done (row.foldl wStep s).done st tok q (textF row) := by
  induction h with
  | nil => intro s st tok q hs; exact ⟨st, tok, q, hs, [], by simp, fun rest ts e k est => k est⟩
  | one h _ ih =>
    intro s st tok q hs
    obtain ⟨st1, tok1, q1, h1, d1, e1, k1⟩ := pie_split h hs
    obtain ⟨st2, tok2, q2, h2, d2, e2, k2⟩ := ih h1
    refine ⟨st2, tok2, q2, h2, d1 ++ d2, by rw [List.foldl_cons, e2, e1, List.append_assoc], fun rest ts e k est => ?_⟩
    rw [textF_cons, List.append_assoc, List.append_assoc]
    exact k1 _ _ _ (k2 _ _ _ k) est
  | @escc b row _ ih =>
    intro s st tok q hs
    obtain ⟨done, o⟩ := s
    have key : ∃ st1 q1, spSt false (wStep (wStep ⟨done, o⟩ ⟨[92], [92], [], 0⟩) ⟨[44], [], [44], 3⟩).opn st1 (o.getD [] ++ [44]) q1 ∧ ∀ rest ts e, (∀ est, Lx false st1 (o.getD [] ++ [44]) q1 est rest ts e) → ∀ est, Lx false st tok q est (92 :: 44 :: rest) ts e := by
      obtain ⟨rfl, hs⟩ := hs
      simp only [Bool.false_eq_true, if_false] at hs
      cases o with
      | none =>
        obtain ⟨rfl, rfl⟩ := hs
        exact ⟨.a, false, ⟨rfl, rfl, rfl⟩, fun rest ts e k est => .go (st' := .esc) (tok' := []) (q' := false) (est' := .a) (by first | rfl | simp [turn, cls]) (.go (by first | rfl | simp [turn]) (k .a))⟩
      | some t =>
        obtain ⟨rfl, hm⟩ := hs
        exact ⟨.a, q, ⟨by simp [wStep], rfl, emit_snoc _ _ _⟩, fun rest ts e k est => .go (st' := .esc) (tok' := t) (q' := q) (est' := .a) (by first | rfl | simp [turn, cls]) (.go (by first | rfl | simp [turn]) (k .a))⟩
    obtain ⟨st1, q1, h1, k1⟩ := key
    obtain ⟨st2, tok2, q2, h2, d2, e2, k2⟩ := ih h1
    refine ⟨st2, tok2, q2, h2, d2, by rw [List.foldl_cons, List.foldl_cons, e2]; simp [wStep], fun rest ts e k est => ?_⟩
    rw [textF_cons, textF_cons]
    exact k1 _ _ _ (k2 _ _ _ k) est
theorem split_ends {row : List Pc} {e : Option Bool} (h : Whole row e) : ∃ ts, Lx false .sp [] false .sp (textF row) ts e ∧ (e = none → ts = (row.foldl wStep ⟨[], none⟩).done ++ (row.foldl wStep ⟨[], none⟩).opn.toList) := by
  have s0 : spSt false (⟨[], none⟩ : SS).opn .sp [] false := ⟨rfl, rfl, rfl⟩
  cases h with
  | fine g =>
    obtain ⟨st, tok, q, hs, d, ed, k⟩ := good_split g s0
    generalize hS : row.foldl wStep ⟨[], none⟩ = S at hs ed
    obtain ⟨done, o⟩ := S
    obtain ⟨rfl, hs⟩ := hs
    simp only [Bool.false_eq_true, if_false] at hs
    simp only [List.nil_append] at ed
    subst ed
    cases o with
    | none =>
      obtain ⟨rfl, rfl⟩ := hs
      refine ⟨done ++ [], by have := k [] [] none (fun est => .stop rfl rfl) .sp; rwa [List.append_nil] at this, fun _ => rfl⟩
    | some t =>
      obtain ⟨rfl, hm⟩ := hs
      refine ⟨done ++ [t], by have := k [] [t] none (fun est => .last rfl hm (.stop rfl rfl)) .sp; rwa [List.append_nil] at this, fun _ => rfl⟩
  | quo g =>
    obtain ⟨st, tok, q, hs, d, ed, k⟩ := good_split g s0
    obtain ⟨rfl, hs⟩ := hs
    simp only [if_true] at hs
    obtain ⟨rfl, _⟩ := hs
    refine ⟨d ++ [], by have := k [] [] (some false) (fun est => .fail rfl) .sp; rwa [List.append_nil] at this, nofun⟩
  | @escO row g =>
    obtain ⟨st, tok, q, hs, d, ed, k⟩ := good_split g s0
    obtain ⟨rfl, hs⟩ := hs
    simp only [Bool.false_eq_true, if_false] at hs
    generalize (row.foldl wStep ⟨[], none⟩).opn = o at hs k
    rw [textF_append, show textF [⟨[92], [92], [], 0⟩] = [92] from rfl]
    cases o with
    | none =>
      obtain ⟨rfl, rfl⟩ := hs
      exact ⟨d ++ [], k [92] [] (some true) (fun est => .go (st' := .esc) (tok' := []) (q' := false) (est' := .a) (by first | rfl | simp [turn, cls]) (.fail rfl)) .sp, nofun⟩
    | some t =>
      obtain ⟨rfl, hm⟩ := hs
      exact ⟨d ++ [], k [92] [] (some true) (fun est => .go (st' := .esc) (tok' := t) (q' := q) (est' := .a) (by first | rfl | simp [turn, cls]) (.fail rfl)) .sp, nofun⟩
  | escI g =>
    obtain ⟨st, tok, q, hs, d, ed, k⟩ := good_split g s0
    obtain ⟨rfl, hs⟩ := hs
    simp only [if_true] at hs
    obtain ⟨rfl, _⟩ := hs
    rw [textF_append, show textF [⟨[92], [], [], 0⟩] = [92] from rfl]
    exact ⟨d ++ [], k [92] [] (some true) (fun est => .go (st' := .esc) (tok' := _) (q' := true) (est' := .q) (by simp [turn]; rfl) (.fail rfl)) .sp, nofun⟩
/-- the words that the law asks for -/
noncomputable def wordsF (row : List Pc) : List (List Nat) := ((cutL [2] row).filter (fun p => !p.isEmpty)).map joinW
theorem words_eq (row : List Pc) : wordsF row = (row.foldl wStep ⟨[], none⟩).done ++ (row.foldl wStep ⟨[], none⟩).opn.toList := by
  have key : ∀ (row : List Pc) (s : SS) (c : List (List Pc) × List Pc), s.done = (c.1.filter (fun p => !p.isEmpty)).map joinW → s.opn = (if c.2 = [] then none else some (joinW c.2)) →
      (row.foldl wStep s).done = ((row.foldl (cutStep [2]) c).1.filter (fun p => !p.isEmpty)).map joinW ∧ (row.foldl wStep s).opn = (if (row.foldl (cutStep [2]) c).2 = [] then none else some (joinW (row.foldl (cutStep [2]) c).2)) := by
    intro row
    induction row with
    | nil => intro s c h1 h2; exact ⟨h1, h2⟩
    | cons x r ih =>
      intro s c h1 h2
      obtain ⟨c1, c2⟩ := c
      rw [List.foldl_cons, List.foldl_cons]
      refine ih _ _ ?_ ?_
      · unfold wStep cutStep
        by_cases hr : x.r = 2
        · simp only [hr, if_true, List.mem_singleton, h1, h2]
          cases c2 with
          | nil => simp
          | cons a l => simp
        · simp [hr, h1]
      · unfold wStep cutStep
        by_cases hr : x.r = 2
        · simp [hr]
        · simp only [hr, if_false, List.mem_singleton, h2]
          cases c2 with
          | nil => simp [joinW]
          | cons a l => simp [joinW]
  obtain ⟨h1, h2⟩ := key row ⟨[], none⟩ ([], []) rfl rfl
  unfold wordsF cutL cutF
  rw [h1, h2, List.filter_append, List.map_append]
  congr 1
  generalize (row.foldl (cutStep [2]) ([], [])).2 = c2
  cases c2 with
  | nil => rfl
  | cons a l => rfl
theorem split_law {row : List Pc} {e : Option Bool} (h : Whole row e) : ∃ ts, Lx false .sp [] false .sp (textF row) ts e ∧ (e = none → ts = wordsF row) := by
  rw [words_eq]; exact split_ends h

/-! the lexer whose punctuation is the comma -/
structure TS where
  done : List (List Nat)
  opn : Option (Bool × List Nat)
noncomputable def tOpen (o : Option (Bool × List Nat)) : List (List Nat) := match o with
  | none => []
  | some p => [p.2]
noncomputable def lStep (s : TS) (x : Pc) : TS := if x.r = 2 then ⟨s.done ++ tOpen s.opn, none⟩ else
  match s.opn with
  | none => ⟨s.done, some (decide (x.r = 1), x.w)⟩
  | some p => if decide (x.r = 1) = p.1 then ⟨s.done, some (p.1, p.2 ++ x.w)⟩ else ⟨s.done ++ [p.2], some (decide (x.r = 1), x.w)⟩
noncomputable def lxSt (b : Bool) (o : Option (Bool × List Nat)) (st : Sta) (tok : List Nat) (q : Bool) : Prop :=
  if b = true then st = .q ∧ o = some (false, tok) else match o with
    | none => st = .sp ∧ tok = [] ∧ q = false
    | some (true, t) => st = .c ∧ tok = t ∧ q = false ∧ t ≠ []
    | some (false, t) => st = .a ∧ tok = t ∧ emit t q = true
theorem emit_ne {t : List Nat} {q : Bool} (h : t ≠ []) : emit t q = true := by cases t with | nil => exact absurd rfl h | cons a l => rfl
/-- a word's piece, from a comma run or from nothing: by the way of a fresh start -/
theorem pie_lex {b b' : Bool} {x : Pc} (h : Pie b x b') {s : TS} {st : Sta} {tok : List Nat} {q : Bool} (hs : lxSt b s.opn st tok q) :
    Way true (lxSt b' (lStep s x).opn) s.done (lStep s x).done st tok q x.t := by
  obtain ⟨done, o⟩ := s
  cases h with
  | @bare c h =>
    simp only [lxSt, Bool.false_eq_true, if_false] at hs
    match o, hs with
    | none, ⟨h1, h2, h3⟩ =>
      subst h1 h2 h3
      exact ⟨.a, [c], false, ⟨rfl, rfl, rfl⟩, [], by first | rfl | exact (List.append_nil _).symm | simp [lStep], fun rest ts e k est => .go (by simp [turn, h]) (k est)⟩
    | some (true, t), ⟨h1, h2, h3, h4⟩ =>
      subst h1 h2 h3
      exact ⟨.a, [c], false, ⟨rfl, rfl, rfl⟩, [tok], by first | rfl | exact (List.append_nil _).symm | simp [lStep], fun rest ts e k est => .back (st' := .sp) (tok' := tok) (q' := false) (by simp [turn, h]) (emit_ne h4) (.go (by simp [turn, h]) (k .sp))⟩
    | some (false, t), ⟨h1, h2, h3⟩ =>
      subst h1 h2
      exact ⟨.a, tok ++ [c], q, ⟨rfl, rfl, emit_snoc _ _ _⟩, [], by first | rfl | exact (List.append_nil _).symm | simp [lStep], fun rest ts e k est => .go (by simp [turn, h]) (k est)⟩
  | comma =>
    simp only [lxSt, Bool.false_eq_true, if_false] at hs
    match o, hs with
    | none, ⟨h1, h2, h3⟩ =>
      subst h1 h2 h3
      exact ⟨.c, [44], false, ⟨rfl, rfl, rfl, by simp⟩, [], by first | rfl | exact (List.append_nil _).symm | simp [lStep], fun rest ts e k est => .go (by first | rfl | simp [turn, Mine.cls]) (k est)⟩
    | some (true, t), ⟨h1, h2, h3, h4⟩ =>
      subst h1 h2 h3
      exact ⟨.c, tok ++ [44], false, ⟨rfl, rfl, rfl, by simp⟩, [], by first | rfl | exact (List.append_nil _).symm | simp [lStep], fun rest ts e k est => .go (by first | rfl | simp [turn, Mine.cls]) (k est)⟩
    | some (false, t), ⟨h1, h2, h3⟩ =>
      subst h1 h2
      exact ⟨.c, [44], false, ⟨rfl, rfl, rfl, by simp⟩, [tok], by first | rfl | exact (List.append_nil _).symm | simp [lStep], fun rest ts e k est => .back (st' := .sp) (tok' := tok) (q' := q) (by simp [turn, Mine.cls, h3]) h3 (.go (by first | rfl | simp [turn, Mine.cls]) (k .sp))⟩
  | @ws c h =>
    simp only [lxSt, Bool.false_eq_true, if_false] at hs
    match o, hs with
    | none, ⟨h1, h2, h3⟩ =>
      subst h1 h2 h3
      exact ⟨.sp, [], false, ⟨rfl, rfl, rfl⟩, [], by first | rfl | exact (List.append_nil _).symm | simp [lStep, tOpen], fun rest ts e k est => .go (by simp [turn, h, emit]) (k est)⟩
    | some (true, t), ⟨h1, h2, h3, h4⟩ =>
      subst h1 h2 h3
      exact ⟨.sp, [], false, ⟨rfl, rfl, rfl⟩, [tok], by first | rfl | exact (List.append_nil _).symm | simp [lStep, tOpen], fun rest ts e k est => .brk (st' := .sp) (by simp only [turn, h]; rw [if_pos (emit_ne h4)]) (emit_ne h4) (k .sp)⟩
    | some (false, t), ⟨h1, h2, h3⟩ =>
      subst h1 h2
      exact ⟨.sp, [], false, ⟨rfl, rfl, rfl⟩, [tok], by first | rfl | exact (List.append_nil _).symm | simp [lStep, tOpen], fun rest ts e k est => .brk (st' := .sp) (by simp only [turn, h]; rw [if_pos h3]) h3 (k .sp)⟩
  | opn =>
    simp only [lxSt, Bool.false_eq_true, if_false] at hs
    match o, hs with
    | none, ⟨h1, h2, h3⟩ =>
      subst h1 h2 h3
      exact ⟨.q, [], false, ⟨rfl, rfl⟩, [], by first | rfl | exact (List.append_nil _).symm | simp [lStep], fun rest ts e k est => .go (by first | rfl | simp [turn, Mine.cls]) (k est)⟩
    | some (true, t), ⟨h1, h2, h3, h4⟩ =>
      subst h1 h2 h3
      exact ⟨.q, [], false, ⟨rfl, rfl⟩, [tok], by first | rfl | exact (List.append_nil _).symm | simp [lStep], fun rest ts e k est => .back (st' := .sp) (tok' := tok) (q' := false) (by first | rfl | simp [turn, Mine.cls]) (emit_ne h4) (.go (by first | rfl | simp [turn, Mine.cls]) (k .sp))⟩
    | some (false, t), ⟨h1, h2, h3⟩ =>
      subst h1 h2
      exact ⟨.q, tok, q, ⟨rfl, by first | rfl | exact (List.append_nil _).symm | simp [lStep]⟩, [], by first | rfl | exact (List.append_nil _).symm | simp [lStep], fun rest ts e k est => .go (by first | rfl | simp [turn, Mine.cls]) (k est)⟩
  | @esc c h1 h2 =>
    simp only [lxSt, Bool.false_eq_true, if_false] at hs
    have e1 : ∀ {tok : List Nat} {q : Bool} {rest : List Nat} {ts : List (List Nat)} {e : Option Bool}, (∀ est, Lx true .a (tok ++ [c]) q est rest ts e) → Lx true .esc tok q .a (c :: rest) ts e := fun k => .go (by first | rfl | simp [turn]) (k .a)
    match o, hs with
    | none, ⟨h1, h2, h3⟩ =>
      subst h1 h2 h3
      exact ⟨.a, [c], false, ⟨rfl, rfl, rfl⟩, [], by first | rfl | exact (List.append_nil _).symm | simp [lStep], fun rest ts e k est => .go (st' := .esc) (tok' := []) (q' := false) (est' := .a) (by first | rfl | simp [turn, Mine.cls]) (e1 k)⟩
    | some (true, t), ⟨h1, h2, h3, h4⟩ =>
      subst h1 h2 h3
      exact ⟨.a, [c], false, ⟨rfl, rfl, rfl⟩, [tok], by first | rfl | exact (List.append_nil _).symm | simp [lStep], fun rest ts e k est => .back (st' := .sp) (tok' := tok) (q' := false) (by first | rfl | simp [turn, Mine.cls]) (emit_ne h4) (.go (st' := .esc) (tok' := []) (q' := false) (est' := .a) (by first | rfl | simp [turn, Mine.cls]) (e1 k))⟩
    | some (false, t), ⟨h1, h2, h3⟩ =>
      subst h1 h2
      exact ⟨.a, tok ++ [c], q, ⟨rfl, rfl, emit_snoc _ _ _⟩, [], by first | rfl | exact (List.append_nil _).symm | simp [lStep], fun rest ts e k est => .go (st' := .esc) (tok' := tok) (q' := q) (est' := .a) (by first | rfl | simp [turn, Mine.cls]) (e1 k)⟩
  | emp =>
    simp only [lxSt, Bool.false_eq_true, if_false] at hs
    have e1 : ∀ {tok : List Nat} {q : Bool} {est : Sta} {rest : List Nat} {ts : List (List Nat)} {e : Option Bool}, (∀ est, Lx true .a tok true est rest ts e) → Lx true .q tok q est (34 :: rest) ts e := fun {tok q est} _ _ _ k => .go (by first | rfl | simp [turn]) (k est)
    match o, hs with
    | none, ⟨h1, h2, h3⟩ =>
      subst h1 h2 h3
      exact ⟨.a, [], true, ⟨rfl, rfl, rfl⟩, [], by first | rfl | exact (List.append_nil _).symm | simp [lStep], fun rest ts e k est => .go (st' := .q) (tok' := []) (q' := false) (est' := est) (by first | rfl | simp [turn, Mine.cls]) (e1 k)⟩
    | some (true, t), ⟨h1, h2, h3, h4⟩ =>
      subst h1 h2 h3
      exact ⟨.a, [], true, ⟨rfl, rfl, rfl⟩, [tok], by first | rfl | exact (List.append_nil _).symm | simp [lStep], fun rest ts e k est => .back (st' := .sp) (tok' := tok) (q' := false) (by first | rfl | simp [turn, Mine.cls]) (emit_ne h4) (.go (st' := .q) (tok' := []) (q' := false) (est' := .sp) (by first | rfl | simp [turn, Mine.cls]) (e1 k))⟩
    | some (false, t), ⟨h1, h2, h3⟩ =>
      subst h1 h2
      exact ⟨.a, tok, true, ⟨rfl, by simp, emit_q _⟩, [], by first | rfl | exact (List.append_nil _).symm | simp [lStep], fun rest ts e k est => .go (st' := .q) (tok' := tok) (q' := q) (est' := est) (by first | rfl | simp [turn, Mine.cls]) (e1 k)⟩
  | @plain c h1 h2 =>
    simp only [lxSt, if_true] at hs
    obtain ⟨rfl, rfl⟩ := hs
    exact ⟨.q, tok ++ [c], true, ⟨rfl, rfl⟩, [], by first | rfl | exact (List.append_nil _).symm | simp [lStep], fun rest ts e k est => .go (by simp [turn, h1, h2]) (k est)⟩
  | inq =>
    simp only [lxSt, if_true] at hs
    obtain ⟨rfl, rfl⟩ := hs
    exact ⟨.q, tok ++ [34], true, ⟨rfl, rfl⟩, [], by first | rfl | exact (List.append_nil _).symm | simp [lStep], fun rest ts e k est => .go (st' := .esc) (tok' := tok) (q' := true) (est' := .q) (by first | rfl | simp [turn]) (.go (by first | rfl | simp [turn]) (k .q))⟩
  | inb =>
    simp only [lxSt, if_true] at hs
    obtain ⟨rfl, rfl⟩ := hs
    exact ⟨.q, tok ++ [92], true, ⟨rfl, rfl⟩, [], by first | rfl | exact (List.append_nil _).symm | simp [lStep], fun rest ts e k est => .go (st' := .esc) (tok' := tok) (q' := true) (est' := .q) (by first | rfl | simp [turn]) (.go (by first | rfl | simp [turn]) (k .q))⟩
  | @ino c h1 h2 =>
    simp only [lxSt, if_true] at hs
    obtain ⟨rfl, rfl⟩ := hs
    exact ⟨.q, tok ++ [92, c], true, ⟨rfl, rfl⟩, [], by first | rfl | exact (List.append_nil _).symm | simp [lStep], fun rest ts e k est => .go (st' := .esc) (tok' := tok) (q' := true) (est' := .q) (by first | rfl | simp [turn]) (.go (st' := .q) (tok' := tok ++ [92, c]) (q' := true) (est' := .q) (by simp [turn, h1, h2]) (k .q))⟩
  | cls =>
    simp only [lxSt, if_true] at hs
    obtain ⟨rfl, rfl⟩ := hs
    exact ⟨.a, tok, true, ⟨rfl, by simp, emit_q _⟩, [], by first | rfl | exact (List.append_nil _).symm | simp [lStep], fun rest ts e k est => .go (by first | rfl | simp [turn]) (k est)⟩
theorem good_lex {b b' : Bool} {row : List Pc} (h : Good b row b') : ∀ {s : TS} {st : Sta} {tok : List Nat} {q : Bool}, lxSt b s.opn st tok q →
    Way true (lxSt b' (row.foldl lStep s).opn) s.done (row.foldl lStep s).done st tok q (textF row) := by
  induction h with
  | nil => intro s st tok q hs; exact ⟨st, tok, q, hs, [], by simp, fun rest ts e k est => k est⟩
  | one h _ ih =>
    intro s st tok q hs
    obtain ⟨st1, tok1, q1, h1, d1, e1, k1⟩ := pie_lex h hs
    obtain ⟨st2, tok2, q2, h2, d2, e2, k2⟩ := ih h1
    refine ⟨st2, tok2, q2, h2, d1 ++ d2, by rw [List.foldl_cons, e2, e1, List.append_assoc], fun rest ts e k est => ?_⟩
    rw [textF_cons, List.append_assoc, List.append_assoc]
    exact k1 _ _ _ (k2 _ _ _ k) est
  | @escc b row _ ih =>
    intro s st tok q hs
    obtain ⟨done, o⟩ := s
    have key : Way true (lxSt false (lStep (lStep ⟨done, o⟩ ⟨[92], [92], [], 0⟩) ⟨[44], [], [44], 3⟩).opn) done (lStep (lStep ⟨done, o⟩ ⟨[92], [92], [], 0⟩) ⟨[44], [], [44], 3⟩).done st tok q [92, 44] := by
      have e1 : ∀ {tok : List Nat} {q : Bool} {rest : List Nat} {ts : List (List Nat)} {e : Option Bool}, (∀ est, Lx true .a (tok ++ [44]) q est rest ts e) → Lx true .esc tok q .a (44 :: rest) ts e := fun k => .go (by first | rfl | simp [turn]) (k .a)
      simp only [lxSt, Bool.false_eq_true, if_false] at hs
      match o, hs with
      | none, ⟨h1, h2, h3⟩ =>
        subst h1 h2 h3
        exact ⟨.a, [44], false, ⟨rfl, rfl, rfl⟩, [], by first | rfl | exact (List.append_nil _).symm | simp [lStep], fun rest ts e k est => .go (st' := .esc) (tok' := []) (q' := false) (est' := .a) (by first | rfl | simp [turn, Mine.cls]) (e1 k)⟩
      | some (true, t), ⟨h1, h2, h3, h4⟩ =>
        subst h1 h2 h3
        exact ⟨.a, [44], false, ⟨rfl, rfl, rfl⟩, [tok], by first | rfl | exact (List.append_nil _).symm | simp [lStep], fun rest ts e k est => .back (st' := .sp) (tok' := tok) (q' := false) (by first | rfl | simp [turn, Mine.cls]) (emit_ne h4) (.go (st' := .esc) (tok' := []) (q' := false) (est' := .a) (by first | rfl | simp [turn, Mine.cls]) (e1 k))⟩
      | some (false, t), ⟨h1, h2, h3⟩ =>
        subst h1 h2
        exact ⟨.a, tok ++ [44], q, ⟨rfl, by simp, emit_snoc _ _ _⟩, [], by first | rfl | exact (List.append_nil _).symm | simp [lStep], fun rest ts e k est => .go (st' := .esc) (tok' := tok) (q' := q) (est' := .a) (by first | rfl | simp [turn, Mine.cls]) (e1 k)⟩
    obtain ⟨st1, tok1, q1, h1, d1, e1, k1⟩ := key
    obtain ⟨st2, tok2, q2, h2, d2, e2, k2⟩ := ih h1
    refine ⟨st2, tok2, q2, h2, d1 ++ d2, by rw [List.foldl_cons, List.foldl_cons, e2, e1, List.append_assoc], fun rest ts e k est => ?_⟩
    rw [textF_cons, textF_cons, List.append_assoc d1]
    exact k1 _ _ _ (k2 _ _ _ k) est
noncomputable def tokAll (s : TS) : List (List Nat) := s.done ++ tOpen s.opn
theorem lex_ends {row : List Pc} {e : Option Bool} (h : Whole row e) : Lx true .sp [] false .sp (textF row) (if e = none then tokAll (row.foldl lStep ⟨[], none⟩) else (tokAll (row.foldl lStep ⟨[], none⟩)).dropLast) e ∧
    (e ≠ none → tokAll (row.foldl lStep ⟨[], none⟩) ≠ []) := by
  have s0 : lxSt false (⟨[], none⟩ : TS).opn .sp [] false := ⟨rfl, rfl, rfl⟩
  cases h with
  | fine g =>
    obtain ⟨st, tok, q, hs, d, ed, k⟩ := good_lex g s0
    refine ⟨?_, fun h => absurd rfl h⟩
    rw [if_pos rfl]
    unfold tokAll
    generalize row.foldl lStep ⟨[], none⟩ = S at hs ed
    obtain ⟨done, o⟩ := S
    simp only [lxSt, Bool.false_eq_true, if_false] at hs
    simp only [List.nil_append] at ed
    subst ed
    have z := k []
    rw [List.append_nil] at z
    match o, hs with
    | none, ⟨h1, h2, h3⟩ => subst h1 h2 h3; exact z [] none (fun est => .stop rfl rfl) .sp
    | some (true, t), ⟨h1, h2, h3, h4⟩ => subst h1 h2 h3; exact z [tok] none (fun est => .last rfl (emit_ne h4) (.stop rfl rfl)) .sp
    | some (false, t), ⟨h1, h2, h3⟩ => subst h1 h2; exact z [tok] none (fun est => .last rfl h3 (.stop rfl rfl)) .sp
  | quo g =>
    obtain ⟨st, tok, q, hs, d, ed, k⟩ := good_lex g s0
    rw [if_neg (by simp)]
    unfold tokAll
    generalize row.foldl lStep ⟨[], none⟩ = S at hs ed
    obtain ⟨done, o⟩ := S
    simp only [lxSt, if_true] at hs
    obtain ⟨rfl, rfl⟩ := hs
    simp only [List.nil_append] at ed
    subst ed
    have z := k []
    rw [List.append_nil] at z
    refine ⟨?_, fun _ => by simp [tOpen]⟩
    have := z [] (some false) (fun est => .fail rfl) .sp
    simpa [tOpen] using this
  | @escO row g =>
    obtain ⟨st, tok, q, hs, d, ed, k⟩ := good_lex g s0
    rw [if_neg (by simp), textF_append, show textF [⟨[92], [92], [], 0⟩] = [92] from rfl, List.foldl_append, List.foldl_cons, List.foldl_nil]
    unfold tokAll
    generalize row.foldl lStep ⟨[], none⟩ = S at hs ed
    obtain ⟨done, o⟩ := S
    simp only [lxSt, Bool.false_eq_true, if_false] at hs
    simp only [List.nil_append] at ed
    subst ed
    match o, hs with
    | none, ⟨h1, h2, h3⟩ =>
      subst h1 h2 h3
      refine ⟨?_, fun _ => by simp [tOpen, lStep]⟩
      have := k [92] [] (some true) (fun est => .go (st' := .esc) (tok' := []) (q' := false) (est' := .a) (by first | rfl | simp [turn, Mine.cls]) (.fail rfl)) .sp
      simpa [tOpen, lStep] using this
    | some (true, t), ⟨h1, h2, h3, h4⟩ =>
      subst h1 h2 h3
      refine ⟨?_, fun _ => by simp [tOpen, lStep]⟩
      have := k [92] [tok] (some true) (fun est => .back (st' := .sp) (tok' := tok) (q' := false) (by first | rfl | simp [turn, Mine.cls]) (emit_ne h4) (.go (st' := .esc) (tok' := []) (q' := false) (est' := .a) (by first | rfl | simp [turn, Mine.cls]) (.fail rfl))) .sp
      simpa [tOpen, lStep] using this
    | some (false, t), ⟨h1, h2, h3⟩ =>
      subst h1 h2
      refine ⟨?_, fun _ => by simp [tOpen, lStep]⟩
      have := k [92] [] (some true) (fun est => .go (st' := .esc) (tok' := tok) (q' := q) (est' := .a) (by first | rfl | simp [turn, Mine.cls]) (.fail rfl)) .sp
      simpa [tOpen, lStep] using this
  | @escI row g =>
    obtain ⟨st, tok, q, hs, d, ed, k⟩ := good_lex g s0
    rw [if_neg (by simp), textF_append, show textF [⟨[92], [], [], 0⟩] = [92] from rfl, List.foldl_append, List.foldl_cons, List.foldl_nil]
    unfold tokAll
    generalize row.foldl lStep ⟨[], none⟩ = S at hs ed
    obtain ⟨done, o⟩ := S
    simp only [lxSt, if_true] at hs
    obtain ⟨rfl, rfl⟩ := hs
    simp only [List.nil_append] at ed
    subst ed
    refine ⟨?_, fun _ => by simp [tOpen, lStep]⟩
    have := k [92] [] (some true) (fun est => .go (st' := .esc) (tok' := tok) (q' := true) (est' := .q) (by first | rfl | simp [turn]) (.fail rfl)) .sp
    simpa [tOpen, lStep] using this
/-- _law_tokens, as the loops go -/
noncomputable def addLast (ts : List (List Nat)) (w : List Nat) : List (List Nat) := ts.dropLast ++ [ts.getLast?.getD [] ++ w]
noncomputable def tStep (s : List (List Nat) × Option Int) (x : Pc) : List (List Nat) × Option Int :=
  (addLast (match s.2 with
    | none => s.1 ++ [[]]
    | some r => if decide (x.r = 1) = decide (r = 1) then s.1 else s.1 ++ [[]]) x.w, some x.r)
noncomputable def tPart (ts : List (List Nat)) (part : List Pc) : List (List Nat) := (part.foldl tStep (ts, none)).1
noncomputable def tokensF (row : List Pc) : List (List Nat) := (cutL [2] row).foldl tPart []
theorem addLast_snoc (a : List (List Nat)) (b w : List Nat) : addLast (a ++ [b]) w = a ++ [b ++ w] := by simp [addLast]
theorem tokens_eq (row : List Pc) : tokensF row = tokAll (row.foldl lStep ⟨[], none⟩) := by
  have key : ∀ (row : List Pc) (s : TS) (c : List (List Pc) × List Pc), (∃ r, c.2.foldl tStep (c.1.foldl tPart [], none) = (tokAll s, r) ∧ (s.opn = none → r = none) ∧ ∀ p, s.opn = some p → ∃ x, r = some x ∧ p.1 = decide (x = 1)) →
      ∃ r, (row.foldl (cutStep [2]) c).2.foldl tStep ((row.foldl (cutStep [2]) c).1.foldl tPart [], none) = (tokAll (row.foldl lStep s), r) := by
    intro row
    induction row with
    | nil => rintro s c ⟨r, h, _⟩; exact ⟨r, h⟩
    | cons x l ih =>
      rintro s c ⟨r, h, h1, h2⟩
      rw [List.foldl_cons, List.foldl_cons]
      refine ih _ _ ?_
      unfold cutStep lStep
      by_cases hr : x.r = 2
      · simp only [hr, if_true, List.mem_singleton]
        refine ⟨none, ?_, fun _ => rfl, nofun⟩
        rw [List.foldl_append]
        show ([] : List Pc).foldl tStep (tPart (c.1.foldl tPart []) c.2, none) = _
        unfold tPart at h ⊢
        simp only [List.foldl_nil, h]
        simp [tokAll, tOpen]
      · simp only [hr, if_false, List.mem_singleton, List.foldl_append, List.foldl_cons, List.foldl_nil, h]
        obtain ⟨done, o⟩ := s
        cases o with
        | none =>
          obtain rfl := h1 rfl
          exact ⟨some x.r, by simp [tStep, tokAll, tOpen, addLast], nofun, fun p hp => by cases hp; exact ⟨_, rfl, rfl⟩⟩
        | some p =>
          obtain ⟨y, rfl, hy⟩ := h2 p rfl
          obtain ⟨p1, p2⟩ := p
          simp only at hy
          subst hy
          by_cases e : decide (x.r = 1) = decide (y = 1)
          · simp only [e, if_true]
            refine ⟨some x.r, ?_, nofun, fun p hp => ?_⟩
            · simp only [tStep, e, if_true, tokAll, tOpen, addLast_snoc]
            · cases hp; exact ⟨_, rfl, e.symm⟩
          · simp only [e, if_false]
            refine ⟨some x.r, ?_, nofun, fun p hp => ?_⟩
            · simp only [tStep, e, if_false, tokAll, tOpen]
              rw [addLast_snoc, List.nil_append]
            · cases hp; exact ⟨_, rfl, rfl⟩
  obtain ⟨r, h⟩ := key row ⟨[], none⟩ ([], []) ⟨none, rfl, fun _ => rfl, nofun⟩
  unfold tokensF cutL cutF
  rw [List.foldl_append]
  exact congrArg Prod.fst h
theorem lex_law {row : List Pc} {e : Option Bool} (h : Whole row e) : Lx true .sp [] false .sp (textF row) (if e = none then tokensF row else (tokensF row).dropLast) e ∧ (e ≠ none → tokensF row ≠ []) := by
  rw [tokens_eq]; exact lex_ends h
/-- tokens are no more than signs -/
theorem lx_no {lx : Bool} {est : Sta} {inp : List Nat} {ts : List (List Nat)} {e : Option Bool} (h : Lx lx .no [] false est inp ts e) : ts = [] := by
  cases h with
  | go h _ => simp [turn] at h
  | brk h hm _ => simp [turn] at h; obtain ⟨-, h1, h2⟩ := h; subst h1 h2; simp [emit] at hm
  | back h _ _ => simp [turn] at h
  | last h hm _ => simp [turn] at h; obtain ⟨-, h1, h2⟩ := h; subst h1 h2; simp [emit] at hm
  | stop _ _ => rfl
  | fail _ => rfl
/-- what a turn may come to -/
noncomputable def OutOk (lx : Bool) (st : Sta) (tok : List Nat) (q : Bool) (est : Sta) (nx : Option Nat) : Out → Prop
  | .go st' tok' _ est' => ((st = .esc → est = .a ∨ est = .q) → (st' = .esc → est' = .a ∨ est' = .q) ∧ ((st = .c → lx = true) → st' = .c → lx = true)) ∧ tok'.length ≤ tok.length + 2 ∧ ∃ n, nx = some n
  | .brk st' tok' q' => ((st' = .no ∨ st' = .sp) ∧ (nx = none → st' = .no) ∧ (st = .sp → tok' = tok ∧ q' = q)) ∧ tok'.length ≤ tok.length
  | .back st' tok' _ => (st' = .sp ∧ (st = .a ∨ st = .c) ∧ (lx = true ∨ st = .c)) ∧ tok'.length ≤ tok.length
  | _ => True
section
variable {lx : Bool} {st : Sta} {tok : List Nat} {q : Bool} {est : Sta} {n : Nat} {nx : Option Nat}
theorem len_p1 : (tok ++ [n]).length ≤ tok.length + 2 := by rw [List.length_append]; exact Nat.add_le_add_left (Nat.le_succ 1) _
theorem len_1 : [n].length ≤ tok.length + 2 := Nat.le_trans (Nat.le_succ 1) (Nat.le_add_left 2 _)
theorem len_p2 : (tok ++ [92] ++ [n]).length ≤ tok.length + 2 := by rw [List.length_append, List.length_append]; exact Nat.le_refl _
theorem ok_a {t : List Nat} {q' : Bool} {e' : Sta} (h : t.length ≤ tok.length + 2) : OutOk lx st tok q est (some n) (.go .a t q' e') := ⟨fun _ => ⟨nofun, fun _ => nofun⟩, h, n, rfl⟩
theorem ok_q {t : List Nat} {q' : Bool} {e' : Sta} (h : t.length ≤ tok.length + 2) : OutOk lx st tok q est (some n) (.go .q t q' e') := ⟨fun _ => ⟨nofun, fun _ => nofun⟩, h, n, rfl⟩
theorem ok_sp : OutOk lx st tok q est (some n) (.go .sp tok q est) := ⟨fun _ => ⟨nofun, fun _ => nofun⟩, Nat.le_add_right _ _, n, rfl⟩
theorem ok_esc {q' : Bool} {e' : Sta} (h : e' = .a ∨ e' = .q) : OutOk lx st tok q est (some n) (.go .esc tok q' e') := ⟨fun _ => ⟨fun _ => h, fun _ => nofun⟩, Nat.le_add_right _ _, n, rfl⟩
theorem ok_est {t : List Nat} (h : t.length ≤ tok.length + 2) : OutOk lx .esc tok q est (some n) (.go est t q est) :=
  ⟨fun he => ⟨fun e => (he rfl).elim (fun x => .inl x) fun x => .inr x, fun _ e => (he rfl).elim (fun x => nomatch x.symm.trans e) fun x => nomatch x.symm.trans e⟩, h, n, rfl⟩
theorem ok_brk {t : List Nat} : OutOk lx st t q est (some n) (.brk .sp t q) := ⟨⟨.inr rfl, nofun, fun _ => ⟨rfl, rfl⟩⟩, Nat.le_refl _⟩
theorem ok_end : OutOk lx st tok q est none (.brk .no tok q) := ⟨⟨.inl rfl, fun _ => rfl, fun _ => ⟨rfl, rfl⟩⟩, Nat.le_refl _⟩
theorem ok_ws {b : Bool} : OutOk lx st tok q est (some n) (if b = true then .brk .sp tok q else .go .sp tok q est) := by
  cases b
  · exact ok_sp
  · exact ok_brk
theorem turn_ok (lx : Bool) (st : Sta) (tok : List Nat) (q : Bool) (est : Sta) (nx : Option Nat) : OutOk lx st tok q est nx (turn lx st tok q est nx) := by
  unfold turn
  cases st with
  | no => exact ⟨⟨.inl rfl, fun _ => rfl, nofun⟩, Nat.zero_le _⟩
  | sp =>
    cases nx with
    | none => exact ok_end
    | some n =>
      dsimp only
      cases cls n with
      | ws => exact ok_ws
      | esc => exact ok_esc (.inl rfl)
      | bare => exact ok_a len_1
      | comma =>
        cases lx
        · exact ok_a len_1
        · exact ⟨fun _ => ⟨nofun, fun _ _ => rfl⟩, len_1, n, rfl⟩
      | quote => exact ok_q (Nat.le_add_right _ _)
      | bad => exact trivial
  | q =>
    cases nx with
    | none => exact trivial
    | some n =>
      dsimp only
      split
      · exact ok_a (Nat.le_add_right _ _)
      split
      · exact ok_esc (.inr rfl)
      · exact ok_q len_p1
  | esc =>
    cases nx with
    | none => exact trivial
    | some n =>
      dsimp only
      split
      · exact ok_est len_p2
      · exact ok_est len_p1
  | a =>
    cases nx with
    | none => exact ok_end
    | some n =>
      dsimp only
      cases cls n with
      | ws => exact ok_ws
      | quote => exact ok_q (Nat.le_add_right _ _)
      | esc => exact ok_esc (.inl rfl)
      | bare => exact ok_a len_p1
      | comma =>
        cases lx
        · exact ok_a len_p1
        · cases emit tok q
          · exact trivial
          · exact ⟨⟨rfl, .inl rfl, .inl rfl⟩, Nat.le_refl _⟩
      | bad => exact trivial
  | c =>
    cases nx with
    | none => exact ok_end
    | some n =>
      dsimp only
      cases cls n with
      | ws => exact ok_ws
      | comma => exact ⟨fun _ => ⟨nofun, fun hc _ => hc rfl⟩, len_p1, n, rfl⟩
      | bad => exact trivial
      | quote => exact ⟨⟨rfl, .inr rfl, .inr rfl⟩, Nat.le_refl _⟩
      | esc => exact ⟨⟨rfl, .inr rfl, .inr rfl⟩, Nat.le_refl _⟩
      | bare => exact ⟨⟨rfl, .inr rfl, .inr rfl⟩, Nat.le_refl _⟩
theorem turn_at {o : Out} (h : turn lx st tok q est nx = o) : OutOk lx st tok q est nx o := h ▸ turn_ok lx st tok q est nx
end
theorem turn_brk {lx : Bool} {st : Sta} {tok : List Nat} {q : Bool} {est : Sta} {nx : Option Nat} {st' : Sta} {tok' : List Nat} {q' : Bool} (h : turn lx st tok q est nx = .brk st' tok' q') : (st' = .no ∨ st' = .sp) ∧ (nx = none → st' = .no) ∧ (st = .sp → tok' = tok ∧ q' = q) := (turn_at h).1
theorem turn_back {lx : Bool} {st : Sta} {tok : List Nat} {q : Bool} {est : Sta} {nx : Option Nat} {st' : Sta} {tok' : List Nat} {q' : Bool} (h : turn lx st tok q est nx = .back st' tok' q') : st' = .sp ∧ (st = .a ∨ st = .c) ∧ (lx = true ∨ st = .c) := (turn_at h).1
theorem Lx.len {lx : Bool} {st : Sta} {tok : List Nat} {q : Bool} {est : Sta} {inp : List Nat} {ts : List (List Nat)} {e : Option Bool} (h : Lx lx st tok q est inp ts e) :
    ts.length ≤ inp.length + 1 ∧ (st = .sp → tok = [] → q = false → ts.length ≤ inp.length) := by
  induction h with
  | go h _ ih => have := ih.1; simp only [List.length_cons]; omega
  | @brk st tok q est n r st' tok' q' ts e h hm k ih =>
    have hk : ts.length ≤ r.length := by
      rcases (turn_brk h).1 with rfl | rfl
      · rw [lx_no k]; simp
      · exact ih.2 rfl rfl rfl
    simp only [List.length_cons]; omega
  | @back st tok q est n r st' tok' q' ts e h hm k ih =>
    obtain ⟨rfl, hs, _⟩ := turn_back h
    have := ih.2 rfl rfl rfl
    simp only [List.length_cons] at this ⊢
    refine ⟨by omega, ?_⟩
    rintro rfl; rcases hs with h | h <;> cases h
  | @last st tok q est st' tok' q' ts e h hm k ih =>
    obtain ⟨_, h2, h3⟩ := turn_brk h
    rw [h2 rfl] at k
    rw [lx_no k]
    refine ⟨by simp, ?_⟩
    rintro rfl rfl rfl
    obtain ⟨rfl, rfl⟩ := h3 rfl
    cases hm
  | stop _ _ => simp
  | fail _ => simp
theorem lex_len {row : List Pc} {ts : List (List Nat)} {e : Option Bool} {lx : Bool} (h : Lx lx .sp [] false .sp (textF row) ts e) : ts.length ≤ (textF row).length := h.len.2 rfl rfl rfl

/-! the law's row -/
noncomputable def faultB (ns : List Int) : Option Bool := if (ns.take 16).sum.fmod 3 = 1 then some true else if (rowF (ns.take 16)).2 = true then some false else none
theorem whole_row (ns : List Int) : Whole (rowAll ns) (faultB ns) := by
  have g := row_good (ns.take 16)
  unfold rowAll faultB
  by_cases h : (ns.take 16).sum.fmod 3 = 1
  · rw [if_pos h, if_pos h]
    by_cases hi : (rowF (ns.take 16)).2 = true
    · rw [if_pos hi]; exact .escI (hi ▸ g)
    · rw [if_neg hi]; exact .escO ((Bool.not_eq_true _ ▸ hi : (rowF (ns.take 16)).2 = false) ▸ g)
  · rw [if_neg h, if_neg h, List.append_nil]
    by_cases hi : (rowF (ns.take 16)).2 = true
    · rw [if_pos hi]; exact .quo (hi ▸ g)
    · rw [if_neg hi]; exact .fine ((Bool.not_eq_true _ ▸ hi : (rowF (ns.take 16)).2 = false) ▸ g)
noncomputable def mendF (row : List Pc) (inside : Bool) (f : Option Bool) : List Pc :=
  let row := if f = some true then row.dropLast ++ [⟨[92, 92], if inside = true then [92] else [92, 92], [92], 0⟩] else row
  if inside = true then row ++ [⟨[34], [34], [], 0⟩] else row
theorem whole_mend (ns : List Int) (hf : faultB ns ≠ none) : Whole (mendF (rowAll ns) (rowF (ns.take 16)).2 (faultB ns)) none := by
  have g := row_good (ns.take 16)
  unfold rowAll mendF
  unfold faultB at hf ⊢
  by_cases h : (ns.take 16).sum.fmod 3 = 1
  · simp only [if_pos h]
    by_cases hi : (rowF (ns.take 16)).2 = true
    · simp only [if_pos hi, List.dropLast_concat, if_true]
      rw [hi] at g
      exact .fine ((g.append (.one .inb .nil)).append (.one .cls .nil))
    · simp only [if_neg hi, List.dropLast_concat, if_true]
      rw [Bool.not_eq_true] at hi
      rw [hi] at g
      exact .fine (g.append (.one (.esc (by decide) (by decide)) .nil))
  · simp only [if_neg h, List.append_nil] at hf ⊢
    by_cases hi : (rowF (ns.take 16)).2 = true
    · simp only [if_pos hi]
      rw [hi] at g
      exact .fine (g.append (.one .cls .nil))
    · rw [if_neg hi] at hf; exact absurd rfl hf
end Mine
/-! L7 -/
namespace Mine
open PySem PySem.W PySem.Calls PyProof.Rows PySem.Spec
section
variable {c : LC} {A A₀ : Around} {E : Value → Shared → Prop} {s : Shared} {l l' : List (Str × Value)} {st st' : Sta} {tok tok' : List Nat} {pos : Nat} {pbk : List Nat} {cn : Str} {cs : Scope} {f : Addr} {ccd : Value}
theorem LexSt.sub (P0 : LexSt c l st tok pos pbk s) (h : ∀ p ∈ l', p ∈ l) : LexSt c l' st tok pos pbk s := by
  obtain ⟨hh, tk, m, es, ne, ei, ni, kk, ts, e, F, hm, N, D, I, T⟩ := P0
  exact ⟨hh, tk, m, es, ne, ei, ni, kk, ts, e, F, fun p hp => hm p (h p hp), N, D, I, T⟩
noncomputable abbrev l3 (x : Addr) (q : Bool) (e : Value) : List (Str × Value) := [(Str.ofString "self", .ref x), (Str.ofString "quoted", .bool q), (Str.ofString "escapedstate", e)]
noncomputable abbrev l4 (x : Addr) (q : Bool) (e v : Value) : List (Str × Value) := [(Str.ofString "self", .ref x), (Str.ofString "quoted", .bool q), (Str.ofString "escapedstate", e), (Str.ofString "nextchar", v)]
theorem st_to {x : Str} {v : Value} {Q : Unit → Shared → Prop} (P0 : LexSt c l st tok pos pbk s) (h : ∀ p ∈ l', p = (x, v) ∨ (p ∈ l ∧ p.1 ≠ x)) (k : ∀ s', LexSt c l' st tok pos pbk s' → Q () s')
    (hk : cs.kind = .function := by rfl) (hl : (envOf cn cs c.L f ccd).kindOf x = some .local := by rfl) :
    wpAny (model Challenge.rw_mq0398_01.row.prog c.w) A (storeName (envOf cn cs c.L f ccd) x v) Q E s := by
  obtain ⟨hh, tk, m, es, ne, ei, ni, kk, ts, rfl, F, hm, N, D, I, T⟩ := P0
  refine stN F N (fun h' F' N' => k _ ⟨h', _, _, es, ne, ei, ni, kk, ts, rfl, F', fun p hp => ?_, N', D, I, T⟩) hk hl
  rcases h p hp with rfl | ⟨h1, h2⟩
  · exact if_pos rfl
  · exact (if_neg h2).trans (hm p h1)
theorem ne1 : Str.ofString "self" ≠ Str.ofString "nextchar" := by decide +kernel
theorem ne2 : Str.ofString "quoted" ≠ Str.ofString "nextchar" := by decide +kernel
theorem ne3 : Str.ofString "escapedstate" ≠ Str.ofString "nextchar" := by decide +kernel
theorem ne4 : Str.ofString "self" ≠ Str.ofString "quoted" := by decide +kernel
theorem ne5 : Str.ofString "escapedstate" ≠ Str.ofString "quoted" := by decide +kernel
theorem ne6 : Str.ofString "self" ≠ Str.ofString "escapedstate" := by decide +kernel
theorem st_next {x : Addr} {q : Bool} {e v : Value} {Q : Unit → Shared → Prop} (P0 : LexSt c (l3 x q e) st tok pos pbk s) (k : ∀ s', LexSt c (l4 x q e v) st tok pos pbk s' → Q () s')
    (hk : cs.kind = .function := by rfl) (hl : (envOf cn cs c.L f ccd).kindOf (Str.ofString "nextchar") = some .local := by rfl) :
    wpAny (model Challenge.rw_mq0398_01.row.prog c.w) A (storeName (envOf cn cs c.L f ccd) (Str.ofString "nextchar") v) Q E s :=
  st_to P0 (fun p hp => by
    simp only [l4, List.mem_cons, List.not_mem_nil, or_false] at hp
    rcases hp with rfl | rfl | rfl | rfl
    · exact .inr ⟨.head _, ne1⟩
    · exact .inr ⟨.tail _ (.head _), ne2⟩
    · exact .inr ⟨.tail _ (.tail _ (.head _)), ne3⟩
    · exact .inl rfl) k hk hl
theorem st_quo {x : Addr} {q b : Bool} {e v : Value} {Q : Unit → Shared → Prop} (P0 : LexSt c (l4 x q e v) st tok pos pbk s) (k : ∀ s', LexSt c (l4 x b e v) st tok pos pbk s' → Q () s')
    (hk : cs.kind = .function := by rfl) (hl : (envOf cn cs c.L f ccd).kindOf (Str.ofString "quoted") = some .local := by rfl) :
    wpAny (model Challenge.rw_mq0398_01.row.prog c.w) A (storeName (envOf cn cs c.L f ccd) (Str.ofString "quoted") (.bool b)) Q E s :=
  st_to P0 (fun p hp => by
    simp only [l4, List.mem_cons, List.not_mem_nil, or_false] at hp
    rcases hp with rfl | rfl | rfl | rfl
    · exact .inr ⟨.head _, ne4⟩
    · exact .inl rfl
    · exact .inr ⟨.tail _ (.tail _ (.head _)), ne5⟩
    · exact .inr ⟨.tail _ (.tail _ (.tail _ (.head _))), ne2.symm⟩) k hk hl
theorem st_est {x : Addr} {q : Bool} {e e' v : Value} {Q : Unit → Shared → Prop} (P0 : LexSt c (l4 x q e v) st tok pos pbk s) (k : ∀ s', LexSt c (l4 x q e' v) st tok pos pbk s' → Q () s')
    (hk : cs.kind = .function := by rfl) (hl : (envOf cn cs c.L f ccd).kindOf (Str.ofString "escapedstate") = some .local := by rfl) :
    wpAny (model Challenge.rw_mq0398_01.row.prog c.w) A (storeName (envOf cn cs c.L f ccd) (Str.ofString "escapedstate") e') Q E s :=
  st_to P0 (fun p hp => by
    simp only [l4, List.mem_cons, List.not_mem_nil, or_false] at hp
    rcases hp with rfl | rfl | rfl | rfl
    · exact .inr ⟨.head _, ne6⟩
    · exact .inr ⟨.tail _ (.head _), ne5.symm⟩
    · exact .inl rfl
    · exact .inr ⟨.tail _ (.tail _ (.tail _ (.head _))), ne3.symm⟩) k hk hl
theorem l4_3 {x : Addr} {q : Bool} {e v : Value} (P0 : LexSt c (l4 x q e v) st tok pos pbk s) : LexSt c (l3 x q e) st tok pos pbk s := P0.sub fun p hp => by
  simp only [l3, l4, List.mem_cons, List.not_mem_nil, or_false] at hp ⊢
  rcases hp with h | h | h
  · exact .inl h
  · exact .inr (.inl h)
  · exact .inr (.inr (.inl h))
theorem contains_S {l : List Nat} {n : Nat} : Txt.contains (S l) (S [n]) = decide (n ∈ l) :=
  (PySem.StrLaws.found_one (S l) n).trans (by simp)
theorem con_t {l : List Nat} {n : Nat} (h : n ∈ l) : Txt.contains (S l) (S [n]) = true := by rw [contains_S]; exact decide_eq_true h
theorem con_f {l : List Nat} {n : Nat} (h : n ∉ l) : ¬ Txt.contains (S l) (S [n]) = true := by rw [contains_S]; exact fun e => h (of_decide_eq_true e)
end
end Mine
/-! L8 -/
namespace Mine
open PySem PySem.W PySem.Calls PyProof.Rows PySem.Spec
theorem fill_l8 : ∀ (w : World) (h : Heap), (Mine.hd.heap_39 w.params).In h → PySem.Challenge.rw_mq0398_01.row.prog = PySem.Challenge.rw_mq0398_01.row.prog := by
  k_fill
  intros; rfl
section
variable {c : LC} {A A₀ : Around} {E : Value → Shared → Prop} {s : Shared} {l l' : List (Str × Value)} {st st' : Sta} {tok tok' : List Nat} {pos : Nat} {pbk : List Nat} {cn : Str} {cs : Scope} {f : Addr} {ccd : Value}

/-- self.state = a written text -/
theorem asg_state_c {x : Str} {st' : Sta} {kk : Nat} {p p2 p3 p4 : Pos} {Q : Flow → Shared → Prop} (o : c.Ok) (P0 : LexSt c l st tok pos pbk s) (hs : (Str.ofString "self", Value.ref c.x) ∈ l) (hx : ∀ t, Value.str x t = st'.val t)
    (k : ∀ s', LexSt c l st' tok pos pbk s' → Q .next s')
    (hk : cs.kind = .function := by rfl) (hl : (envOf cn cs c.L f ccd).kindOf (Str.ofString "self") = some .local := by rfl) :
    wpAny (model Challenge.rw_mq0398_01.row.prog c.w) A (exec (.Assign [.Attribute (.Name (Str.ofString "self") p) (Str.ofString "state") p2] (.Constant (.str x) kk p3) p4) (envOf cn cs c.L f ccd)) Q E s :=
  plainObj_wpAny_Assign_Attribute (c_str P0 fun _ _ P1 => lex_self P1 hs (set_state (hx _) o P1 k) hk hl)
theorem hx_a : ∀ t, Value.str (Str.ofString "a") t = Sta.a.val t := fun t => by show Value.str (Str.ofString "a") t = Value.str (S [97]) t; rw [show Str.ofString "a" = S [97] from by decide +kernel]
theorem hx_c : ∀ t, Value.str (Str.ofString "c") t = Sta.c.val t := fun t => by show Value.str (Str.ofString "c") t = Value.str (S [99]) t; rw [show Str.ofString "c" = S [99] from by decide +kernel]
theorem hx_sp : ∀ t, Value.str (Str.ofString " ") t = Sta.sp.val t := fun t => by show Value.str (Str.ofString " ") t = Value.str (S [32]) t; rw [show Str.ofString " " = S [32] from by decide +kernel]
/-- self.state = None -/
theorem asg_state_n {kk : Nat} {p p2 p3 p4 : Pos} {Q : Flow → Shared → Prop} (o : c.Ok) (P0 : LexSt c l st tok pos pbk s) (hs : (Str.ofString "self", Value.ref c.x) ∈ l)
    (k : ∀ s', LexSt c l .no tok pos pbk s' → Q .next s')
    (hk : cs.kind = .function := by rfl) (hl : (envOf cn cs c.L f ccd).kindOf (Str.ofString "self") = some .local := by rfl) :
    wpAny (model Challenge.rw_mq0398_01.row.prog c.w) A (exec (.Assign [.Attribute (.Name (Str.ofString "self") p) (Str.ofString "state") p2] (.Constant .none kk p3) p4) (envOf cn cs c.L f ccd)) Q E s :=
  plainObj_wpAny_Assign_Attribute (wpAny_Constant_none (lex_self P0 hs (set_state (st' := .no) (t := 0) rfl o P0 k) hk hl))
/-- self.state = a name -/
theorem asg_state_x {x : Str} {v : Value} {st' : Sta} {t : Tok} {p p2 p3 p4 : Pos} {Q : Flow → Shared → Prop} (o : c.Ok) (P0 : LexSt c l st tok pos pbk s) (hs : (Str.ofString "self", Value.ref c.x) ∈ l) (hv : (x, v) ∈ l) (hx : v = st'.val t)
    (k : ∀ s', LexSt c l st' tok pos pbk s' → Q .next s')
    (hk : cs.kind = .function := by rfl) (hl : (envOf cn cs c.L f ccd).kindOf (Str.ofString "self") = some .local := by rfl) (hl2 : (envOf cn cs c.L f ccd).kindOf x = some .local := by rfl) (hd : (x == ("__debug__" : Str)) = false := by decide) :
    wpAny (model Challenge.rw_mq0398_01.row.prog c.w) A (exec (.Assign [.Attribute (.Name (Str.ofString "self") p) (Str.ofString "state") p2] (.Name x p3) p4) (envOf cn cs c.L f ccd)) Q E s :=
  plainObj_wpAny_Assign_Attribute (lex_self P0 hv (lex_self P0 hs (set_state hx o P0 k) hk hl) hk hl2 hd)
/-- self.token = a name -/
theorem asg_token_x {x : Str} {n : List Nat} {t : Tok} {p p2 p3 p4 : Pos} {Q : Flow → Shared → Prop} (o : c.Ok) (P0 : LexSt c l st tok pos pbk s) (hs : (Str.ofString "self", Value.ref c.x) ∈ l) (hv : (x, Value.str (S n) t) ∈ l)
    (k : ∀ s', LexSt c l st n pos pbk s' → Q .next s')
    (hk : cs.kind = .function := by rfl) (hl : (envOf cn cs c.L f ccd).kindOf (Str.ofString "self") = some .local := by rfl) (hl2 : (envOf cn cs c.L f ccd).kindOf x = some .local := by rfl) (hd : (x == ("__debug__" : Str)) = false := by decide) :
    wpAny (model Challenge.rw_mq0398_01.row.prog c.w) A (exec (.Assign [.Attribute (.Name (Str.ofString "self") p) (Str.ofString "token") p2] (.Name x p3) p4) (envOf cn cs c.L f ccd)) Q E s :=
  plainObj_wpAny_Assign_Attribute (lex_self P0 hv (lex_self P0 hs (set_token rfl o P0 k) hk hl) hk hl2 hd)
/-- self.token = '' -/
theorem asg_token_0 {kk : Nat} {p p2 p3 p4 : Pos} {Q : Flow → Shared → Prop} (o : c.Ok) (P0 : LexSt c l st tok pos pbk s) (hs : (Str.ofString "self", Value.ref c.x) ∈ l)
    (k : ∀ s', LexSt c l st [] pos pbk s' → Q .next s')
    (hk : cs.kind = .function := by rfl) (hl : (envOf cn cs c.L f ccd).kindOf (Str.ofString "self") = some .local := by rfl) :
    wpAny (model Challenge.rw_mq0398_01.row.prog c.w) A (exec (.Assign [.Attribute (.Name (Str.ofString "self") p) (Str.ofString "token") p2] (.Constant (.str (Str.ofString "")) kk p3) p4) (envOf cn cs c.L f ccd)) Q E s :=
  plainObj_wpAny_Assign_Attribute (c_str P0 fun _ _ P1 => lex_self P1 hs (set_token (by rw [show Str.ofString "" = S [] from by decide +kernel]) o P1 k) hk hl)
/-- quoted = True, escapedstate = 'a' -/
theorem asg_quo {x : Addr} {q : Bool} {e v : Value} {kk : Nat} {p p3 p4 : Pos} {Q : Flow → Shared → Prop} (P0 : LexSt c (l4 x q e v) st tok pos pbk s)
    (k : ∀ s', LexSt c (l4 x true e v) st tok pos pbk s' → Q .next s')
    (hk : cs.kind = .function := by rfl) (hl : (envOf cn cs c.L f ccd).kindOf (Str.ofString "quoted") = some .local := by rfl) :
    wpAny (model Challenge.rw_mq0398_01.row.prog c.w) A (exec (.Assign [.Name (Str.ofString "quoted") p] (.Constant (.bool true) kk p3) p4) (envOf cn cs c.L f ccd)) Q E s :=
  wpAny_Assign_Name (wpAny_Constant_bool (st_quo P0 k hk hl))
theorem asg_est_a {x : Addr} {q : Bool} {e v : Value} {kk : Nat} {p p3 p4 : Pos} {Q : Flow → Shared → Prop} (P0 : LexSt c (l4 x q e v) st tok pos pbk s)
    (k : ∀ t s', LexSt c (l4 x q (Sta.a.val t) v) st tok pos pbk s' → Q .next s')
    (hk : cs.kind = .function := by rfl) (hl : (envOf cn cs c.L f ccd).kindOf (Str.ofString "escapedstate") = some .local := by rfl) :
    wpAny (model Challenge.rw_mq0398_01.row.prog c.w) A (exec (.Assign [.Name (Str.ofString "escapedstate") p] (.Constant (.str (Str.ofString "a")) kk p3) p4) (envOf cn cs c.L f ccd)) Q E s :=
  wpAny_Assign_Name (c_str P0 fun t s1 P1 => by rw [hx_a]; exact st_est P1 (k t) hk hl)
theorem asg_est_s {x : Addr} {q : Bool} {e v : Value} {p p3 p4 p5 : Pos} {Q : Flow → Shared → Prop} (o : c.Ok) (hx : x = c.x) (P0 : LexSt c (l4 x q e v) st tok pos pbk s)
    (k : ∀ t s', LexSt c (l4 x q (st.val t) v) st tok pos pbk s' → Q .next s')
    (hk : cs.kind = .function := by rfl) (hl : (envOf cn cs c.L f ccd).kindOf (Str.ofString "escapedstate") = some .local := by rfl) (hl2 : (envOf cn cs c.L f ccd).kindOf (Str.ofString "self") = some .local := by rfl) :
    wpAny (model Challenge.rw_mq0398_01.row.prog c.w) A (exec (.Assign [.Name (Str.ofString "escapedstate") p] (.Attribute (.Name (Str.ofString "self") p3) (Str.ofString "state") p5) p4) (envOf cn cs c.L f ccd)) Q E s := by
  subst hx
  exact wpAny_Assign_Name (at_state o P0 (.head _) (fun t s1 P1 => st_est P1 (k t) hk hl) hk hl2)
/-- self._pushback_chars.append(nextchar) -/
theorem push_back {n : Nat} {t : Tok} {x : Str} {p p2 p3 p4 p5 : Pos} {Q : Flow → Shared → Prop} (o : c.Ok) (hlx : c.lx = true) (P0 : LexSt c l st tok pos [] s) (hs : (Str.ofString "self", Value.ref c.x) ∈ l) (hv : (x, Value.str (S [n]) t) ∈ l)
    (k : ∀ s', LexSt c l st tok pos [n] s' → Q .next s')
    (hk : cs.kind = .function := by rfl) (hl : (envOf cn cs c.L f ccd).kindOf (Str.ofString "self") = some .local := by rfl) (hl2 : (envOf cn cs c.L f ccd).kindOf x = some .local := by rfl) (hd : (x == ("__debug__" : Str)) = false := by decide)
    (hi : interactive (envOf cn cs c.L f ccd) = false := by rfl) (hsw : swapsWith (.Call (.Attribute (.Attribute (.Name (Str.ofString "self") p) (Str.ofString "_pushback_chars") p2) (Str.ofString "append") p3) [.Name x p4] [] p5) none p5.line (envOf cn cs c.L f ccd) = pure false := by rfl)
    {pl : Sem Bool}
    (he : eval (.Call (.Attribute (.Attribute (.Name (Str.ofString "self") p) (Str.ofString "_pushback_chars") p2) (Str.ofString "append") p3) [.Name x p4] [] p5) (envOf cn cs c.L f ccd) = (do
      let ov ← eval (.Attribute (.Name (Str.ofString "self") p) (Str.ofString "_pushback_chars") p2) (envOf cn cs c.L f ccd)
      standAt p3.atName
      let (f', first) ← holding [ov] (getMethod ov (Str.ofString "append") pl)
      callWith p5 f' first (backTo p5 (starEach [.Name x p4] (envOf cn cs c.L f ccd))) []) := by rfl) :
    wpAny (model Challenge.rw_mq0398_01.row.prog c.w) A (exec (.Expr (.Call (.Attribute (.Attribute (.Name (Str.ofString "self") p) (Str.ofString "_pushback_chars") p2) (Str.ofString "append") p3) [.Name x p4] [] p5) p5) (envOf cn cs c.L f ccd)) Q E s := by
  refine wpAny_Expr (MethodCall_ (at_pushback_chars o hlx P0 hs (fun s1 P1 => pc_getAppend hlx P1 (callWith_method1 ?_)) hk hl) he) hi hsw
  exact spliced_cons (lex_self P1 hv (spliced_nil (pc_append o hlx P1 fun s2 P2 => k s2 P2)) hk hl2 hd)
end
end Mine
/-! RT -/
namespace Mine
open PySem PySem.W PySem.Calls PyProof.Rows PySem.Spec
theorem zz_RT {P : Nat → Prop} (h : ∃ x, P x) : ∃ x, P x := by first | (w_top off; walk1; fail) | exact h
theorem fill_rt : ∀ (w : World) (h : Heap), (Mine.hd.heap_39 w.params).In h → PySem.Challenge.rw_mq0398_01.row.prog = PySem.Challenge.rw_mq0398_01.row.prog := by
  k_fill
  intros; rfl

theorem while_inv {prog : Program} {w : World} {A : Around} {E : Value → Shared → Prop} {env : Env} {s : Shared} {test : Expr} {body : List Stmt} {pos : Pos} {Q : Flow → Shared → Prop} (I : Nat → Shared → Prop) (hE : PassesOwn (model prog w) A env E)
    (turn : ∀ n s, I n s → wpAny (model prog w) A (PySem.isTrue test env (eval test env)) (fun b s₂ => if b then wpAny (model prog w) A (execs body env) (fun f s₃ => match f with
      | .next | .cont => ∃ m, m < n ∧ I m s₃
      | .brk => Q .next s₃
      | .ret v => Q (.ret v) s₃) E s₂ else Q .next s₂) E s)
    (n : Nat) (h : I n s) : wpAny (model prog w) A (exec (.While test body [] pos) env) Q E s := by
  refine wpAny_While (codeAny_whileLoop (R := fun r s' => match r with | .ok f => Q f s' | .error e => cameBackBy (model prog w) A env E e s') I (fun n s hI => ?_) n h)
  refine wpAny_passesOwn hE (wpAny_mono (turn n s hI) (fun b s₂ h₂ => ?_) fun _ _ e => e)
  cases b with
  | true => exact wpAny_passesOwn hE h₂
  | false => exact wpAny_execs_nil h₂

section
variable {c : LC} {A A₀ : Around} {mg mb : Str → Option Value} {mean : ExcName → Option Value} {base h₀ : Heap} {env : Env} {outer : List Env} {L : Addr} {s : Shared} {m : Str → Option Value}

noncomputable def LC.at (c : LC) (g : Heap) (L : Addr) (s0 : Shared) : LC := { c with g := g, L := L, s0 := s0 }
theorem LexD.at {g : Heap} {L : Addr} {s0 : Shared} {es : List DictEntry} {st : Sta} {tok : List Nat} (D : LexD c es st tok) : LexD (c.at g L s0) es st tok :=
  ⟨D.1, D.2, D.3, D.4, D.5, D.6, D.7, D.8, D.9, D.10, D.11, D.12, D.13, D.14, D.15, D.16, D.17, D.18, D.19, D.20, D.21, D.22⟩
theorem LexD.un {g : Heap} {L : Addr} {s0 : Shared} {es : List DictEntry} {st : Sta} {tok : List Nat} (D : LexD (c.at g L s0) es st tok) : LexD c es st tok :=
  ⟨D.1, D.2, D.3, D.4, D.5, D.6, D.7, D.8, D.9, D.10, D.11, D.12, D.13, D.14, D.15, D.16, D.17, D.18, D.19, D.20, D.21, D.22⟩
theorem IoD.at {g : Heap} {L : Addr} {s0 : Shared} {es : List DictEntry} {pos : Nat} (D : IoD c es pos) : IoD (c.at g L s0) es pos := ⟨D.1, D.2, D.3, D.4, D.5, D.6, D.7⟩
theorem IoD.un {g : Heap} {L : Addr} {s0 : Shared} {es : List DictEntry} {pos : Nat} (D : IoD (c.at g L s0) es pos) : IoD c es pos := ⟨D.1, D.2, D.3, D.4, D.5, D.6, D.7⟩
theorem LC.Ok.at {g : Heap} {L : Addr} {s0 : Shared} (o : c.Ok) (X : (Mine.hd.heap_39 c.w.params).In g) : (c.at g L s0).Ok :=
  ⟨X, o.2, o.3, o.4, o.5, o.6, o.7, o.8, o.9, o.10, o.11, o.12, o.13, o.14, o.15⟩

noncomputable def TurnPost (d : LC) (pos' : Nat) (nx : Option Nat) (out : Out) (f : Flow) (s : Shared) : Prop :=
  match out with
  | .go st' tok' q' est' => (f = .next ∨ f = .cont) ∧ ∃ te v, LexSt d (l4 d.x q' (est'.val te) v) st' tok' pos' [] s
  | .brk st' tok' q' => f = .brk ∧ ∃ te v, LexSt d (l4 d.x q' te v) st' tok' pos' [] s
  | .back st' tok' q' => f = .brk ∧ ∃ te v n, nx = some n ∧ LexSt d (l4 d.x q' te v) st' tok' pos' [n] s
  | _ => False

inductive WhInv (d : LC) (res : TokRes) (n : Nat) (s' : Shared) : Prop
  | mk (st : Sta) (tok : List Nat) (q : Bool) (est : Sta) (pos : Nat) (pbk : List Nat) (te : Tok) (P : LexSt d (l3 d.x q (est.val te)) st tok pos pbk s') (h1 : pbk.length ≤ 1) (h2 : d.lx = false → pbk = []) (h3 : st = .esc → est = .a ∨ est = .q) (h4 : st = .c → d.lx = true)
    (h5 : tok.length + 2 * n ≤ 5000) (h6 : n = (pbk ++ d.tx.drop pos).length) (h7 : runTok d.lx st tok q est (pbk ++ d.tx.drop pos) = res) : WhInv d res n s'
inductive WhPost (d : LC) (res : TokRes) (f : Flow) (s' : Shared) : Prop
  | mk (hf : f = .next) (st' : Sta) (tok' : List Nat) (q' : Bool) (te : Value) (pos' : Nat) (pbk' : List Nat) (hr : res = .done st' tok' q' (pbk' ++ d.tx.drop pos')) (h1 : pbk'.length ≤ 1) (h2 : d.lx = false → pbk' = []) (h3 : tok'.length ≤ 5000) (P : LexSt d (l3 d.x q' te) st' tok' pos' pbk' s') : WhPost d res f s'
theorem LexSt.io {d : LC} {l : List (Str × Value)} {st : Sta} {tok : List Nat} {pos : Nat} {pbk : List Nat} (P0 : LexSt d l st tok pos pbk s) : (S d.tx).length ≤ 1000 := by
  obtain ⟨h, tk, m, es, ne, ei, ni, kk, ts, rfl, F, hm, N, D, I, T⟩ := P0
  exact I.fit

inductive ProPost (d : LC) (q : Bool) (e : Value) (st : Sta) (tok : List Nat) (inp : List Nat) (f : Flow) (s : Shared) : Prop
  | mk (hf : f = .next) (nx : Option Nat) (t : Tok) (pos' : Nat) (hh : inp.head? = nx) (ht : d.tx.drop pos' = inp.tail) (P : LexSt d (l4 d.x q e (.str (S nx.toList) t)) st tok pos' [] s) : ProPost d q e st tok inp f s
theorem LexSt.inK {d : LC} {l : List (Str × Value)} {st : Sta} {tok : List Nat} {pos : Nat} {pbk : List Nat} (o : d.Ok) (P0 : LexSt d l st tok pos pbk s) : (Mine.hd.heap_39 d.w.params).In s.heap := by
  obtain ⟨h, tk, m, es, ne, ei, ni, kk, ts, rfl, F, hm, N, D, I, T⟩ := P0
  exact o.X.keeps F.keep
theorem pro_read {d : LC} {l : List (Str × Value)} {st : Sta} {tok : List Nat} {pos : Nat} {pbk : List Nat} {env2 : Env} {p4 p5 : Pos} {kq : Nat} {E : Value → Shared → Prop} {Q : Value → Shared → Prop} (o : d.Ok) (hord : d.dio < d.io) (am : Amb d.w mg mb mean 3 A A₀ base d.g env outer d.L) (P0 : LexSt d l st tok pos pbk s)
    (k0 : ∀ t s', d.tx[pos]? = none → LexSt d l st tok pos pbk s' → Q (.str (S []) t) s') (k1 : ∀ n t s', d.tx[pos]? = some n → LexSt d l st tok (pos + 1) pbk s' → Q (.str (S [n]) t) s') :
    wpAny (model Challenge.rw_mq0398_01.row.prog d.w) A (callWith p5 (.ref 538) [.ref d.io] (backTo p5 (starEach [.Constant (.int 1) kq p4] env2)) []) Q E s :=
  callWith_K o.X (by k_is) (spliced_cons (c_int (kk := kq) (p := p4) P0 fun t s2 P2 => spliced_nil ⟨P2.inK o, io_read o hord am P2 k0 k1⟩))
theorem turn_go {lx : Bool} {st : Sta} {tok : List Nat} {q : Bool} {est : Sta} {nx : Option Nat} {st' : Sta} {tok' : List Nat} {q' : Bool} {est' : Sta} (h : turn lx st tok q est nx = .go st' tok' q' est') (he : st = .esc → est = .a ∨ est = .q) (hc : st = .c → lx = true) :
    (st' = .esc → est' = .a ∨ est' = .q) ∧ (st' = .c → lx = true) ∧ tok'.length ≤ tok.length + 2 ∧ ∃ n, nx = some n := by
  obtain ⟨h1, h2, h3⟩ := turn_at h
  exact ⟨(h1 he).1, (h1 he).2 hc, h2, h3⟩
theorem turn_brk_len {lx : Bool} {st : Sta} {tok : List Nat} {q : Bool} {est : Sta} {nx : Option Nat} {st' : Sta} {tok' : List Nat} {q' : Bool} (h : turn lx st tok q est nx = .brk st' tok' q') : tok'.length ≤ tok.length := (turn_at h).2
theorem turn_back_len {lx : Bool} {st : Sta} {tok : List Nat} {q : Bool} {est : Sta} {nx : Option Nat} {st' : Sta} {tok' : List Nat} {q' : Bool} (h : turn lx st tok q est nx = .back st' tok' q') : tok'.length ≤ tok.length := (turn_at h).2
noncomputable def JP (d : LC) (res : TokRes) (n : Nat) (f : Flow) (s : Shared) : Prop := match f with
  | .next | .cont => ∃ m, m < n ∧ WhInv d res m s
  | .brk => WhPost d res .next s
  | .ret _ => False
theorem turn_join {d : LC} {res : TokRes} {st : Sta} {tok : List Nat} {q : Bool} {est : Sta} {inp : List Nat} {nx : Option Nat} {pos' : Nat} {f : Flow} {s : Shared} (hr : runTok d.lx st tok q est inp = res) (hh : inp.head? = nx) (ht : d.tx.drop pos' = inp.tail)
    (he : st = .esc → est = .a ∨ est = .q) (hc : st = .c → d.lx = true) (hz : tok.length + 2 * inp.length ≤ 5000) (T : TurnPost d pos' nx (turn d.lx st tok q est nx) f s) :
    JP d res inp.length f s := by
  cases ho : turn d.lx st tok q est nx with
  | go st' tok' q' est' =>
    rw [ho] at T
    obtain ⟨hf, te, v, P⟩ := T
    obtain ⟨h1, h2, h3, n, rfl⟩ := turn_go ho he hc
    cases inp with
    | nil => cases hh
    | cons n' r =>
      obtain rfl : n' = n := Option.some.inj hh
      have hI : ∃ m, m < (n' :: r).length ∧ WhInv d res m s := by
        refine ⟨r.length, by simp, st', tok', q', est', pos', [], te, l4_3 P, by simp, fun _ => rfl, h1, h2, ?_, ?_, ?_⟩
        · simp only [List.length_cons] at hz; omega
        · rw [ht]; simp
        · rw [← hr, ht]; unfold runTok; rw [ho]; cases r <;> rfl
      rcases hf with rfl | rfl <;> exact hI
  | brk st' tok' q' =>
    rw [ho] at T
    obtain ⟨rfl, te, v, P⟩ := T
    refine ⟨rfl, st', tok', q', te, pos', [], ?_, by simp, fun _ => rfl, by have := turn_brk_len ho; omega, l4_3 P⟩
    rw [← hr, ht]
    cases inp with
    | nil => cases hh; unfold runTok; rw [show turn d.lx st tok q est none = _ from ho]; rfl
    | cons n' r => cases hh; unfold runTok; rw [show turn d.lx st tok q est (some n') = _ from ho]; rfl
  | back st' tok' q' =>
    rw [ho] at T
    obtain ⟨rfl, te, v, n, rfl, P⟩ := T
    refine ⟨rfl, st', tok', q', te, pos', [n], ?_, by simp, fun hx => ?_, by have := turn_back_len ho; omega, l4_3 P⟩
    · rw [← hr, ht]
      cases inp with
      | nil => cases hh
      | cons n' r => obtain rfl : n' = n := Option.some.inj hh
                     unfold runTok; rw [ho]; rfl
    · rcases (turn_back ho).2.2 with h | h
      · rw [hx] at h; cases h
      · rw [hc h] at hx; cases hx
  | err e => rw [ho] at T; exact T.elim
  | bad => rw [ho] at T; exact T.elim
theorem run_bad {lx : Bool} {st : Sta} {tok : List Nat} {q : Bool} {est : Sta} {inp : List Nat} {res : TokRes} (hr : runTok lx st tok q est inp = res) (hb : res ≠ .bad) : turn lx st tok q est inp.head? ≠ .bad := by
  intro h
  apply hb
  rw [← hr]
  cases inp with
  | nil => unfold runTok; rw [show turn lx st tok q est none = .bad from h]
  | cons n r => unfold runTok; rw [show turn lx st tok q est (some n) = .bad from h]
theorem run_err {lx : Bool} {st : Sta} {tok : List Nat} {q : Bool} {est : Sta} {inp : List Nat} {res : TokRes} {e : Bool} (hr : runTok lx st tok q est inp = res) (h : turn lx st tok q est inp.head? = .err e) : res = .fail e := by
  rw [← hr]
  cases inp with
  | nil => unfold runTok; rw [show turn lx st tok q est none = .err e from h]
  | cons n r => unfold runTok; rw [show turn lx st tok q est (some n) = .err e from h]
theorem bare_f {n : Nat} (h : cls n = .bare) : ¬ Txt.contains (S [32, 9, 13, 10]) (S [n]) = true ∧ ¬ Txt.contains (S [35]) (S [n]) = true ∧ ¬ Txt.contains (S []) (S [n]) = true ∧ ¬ Txt.contains (S [92]) (S [n]) = true ∧ Txt.contains (S wcL) (S [n]) = true ∧
    ¬ Txt.contains (S [44]) (S [n]) = true ∧ ¬ Txt.contains (S [39, 34]) (S [n]) = true := by
  rcases cls_bare h with rfl | rfl | rfl | rfl | rfl | rfl <;> decide +kernel
theorem ws_f {n : Nat} (h : cls n = .ws) : Txt.contains (S [32, 9, 13, 10]) (S [n]) = true := by
  rcases cls_ws h with rfl | rfl | rfl | rfl <;> decide +kernel
theorem cls_comma {n : Nat} (h : cls n = .comma) : n = 44 := by
  unfold cls at h
  repeat' split at h
  all_goals first | assumption | cases h
theorem cls_quote {n : Nat} (h : cls n = .quote) : n = 34 := by
  unfold cls at h
  repeat' split at h
  all_goals first | assumption | cases h
theorem cls_esc {n : Nat} (h : cls n = .esc) : n = 92 := by
  unfold cls at h
  repeat' split at h
  all_goals first | assumption | cases h
theorem t_str1 {c : LC} {A : Around} {E : Value → Shared → Prop} {s : Shared} {l : List (Str × Value)} {st : Sta} {tok : List Nat} {pos : Nat} {pbk : List Nat} {n : Nat} {t : Tok} {Q : Bool → Shared → Prop} (P0 : LexSt c l st tok pos pbk s) (k : ∀ s', LexSt c l st tok pos pbk s' → Q true s') :
    wpAny (model Challenge.rw_mq0398_01.row.prog c.w) A (truthy (.str (S [n]) t)) Q E s := t_str (by simp) P0 k
theorem t_str0 {c : LC} {A : Around} {E : Value → Shared → Prop} {s : Shared} {l : List (Str × Value)} {st : Sta} {tok : List Nat} {pos : Nat} {pbk : List Nat} {t : Tok} {Q : Bool → Shared → Prop} (P0 : LexSt c l st tok pos pbk s) (k : ∀ s', LexSt c l st tok pos pbk s' → Q false s') :
    wpAny (model Challenge.rw_mq0398_01.row.prog c.w) A (truthy (.str (S []) t)) Q E s := t_str (by simp) P0 k
theorem is_none_str {prog : Program} {w : World} {a : Str} {t : Tok} {Q : Value → Shared → Prop} {E : Value → Shared → Prop} (h : Q (.bool false) s) : wpAny (model prog w) A (compareOp .Is (.str a t) .none) Q E s := is_none_ne (by simp) h
theorem tp_go {d : LC} {pos' : Nat} {nx : Option Nat} {o : Out} {st' : Sta} {tok' : List Nat} {q' : Bool} {est' : Sta} {f : Flow} {te : Tok} {v : Value} {s : Shared} (P : LexSt d (l4 d.x q' (est'.val te) v) st' tok' pos' [] s) (hf : f = .next ∨ f = .cont) (h : o = .go st' tok' q' est') : TurnPost d pos' nx o f s := by
  subst h; exact ⟨hf, te, v, P⟩
theorem tp_brk {d : LC} {pos' : Nat} {nx : Option Nat} {o : Out} {st' : Sta} {tok' : List Nat} {q' : Bool} {f : Flow} {te : Value} {v : Value} {s : Shared} (P : LexSt d (l4 d.x q' te v) st' tok' pos' [] s) (hf : f = .brk) (h : o = .brk st' tok' q') : TurnPost d pos' nx o f s := by
  subst h; exact ⟨hf, te, v, P⟩
theorem tp_back {d : LC} {pos' : Nat} {n : Nat} {o : Out} {st' : Sta} {tok' : List Nat} {q' : Bool} {f : Flow} {te : Value} {v : Value} {s : Shared} (P : LexSt d (l4 d.x q' te v) st' tok' pos' [n] s) (hf : f = .brk) (h : o = .back st' tok' q') : TurnPost d pos' (some n) o f s := by
  subst h; exact ⟨hf, te, v, n, rfl, P⟩
theorem ite_em {c : Prop} [Decidable c] {a b : Prop} (h1 : c → a) (h2 : ¬ c → b) : if c then a else b := by
  by_cases h : c
  · rw [if_pos h]; exact h1 h
  · rw [if_neg h]; exact h2 h
theorem in_of {l : List Nat} {n : Nat} (h : Txt.contains (S l) (S [n]) = true) : n ∈ l := by rw [contains_S] at h; exact of_decide_eq_true h
theorem nin_of {l : List Nat} {n : Nat} (h : ¬ Txt.contains (S l) (S [n]) = true) : n ∉ l := fun e => h (by rw [contains_S]; exact decide_eq_true e)
theorem no_nil {n : Nat} : ¬ Txt.contains (S []) (S [n]) = true := con_f (by simp)
theorem no_nil' {n : Nat} : (!Txt.contains (S []) (S [n])) = true := by rw [contains_S]; rfl
theorem ws_of {n : Nat} (h : Txt.contains (S [32, 9, 13, 10]) (S [n]) = true) : cls n = .ws := by
  have := in_of h
  simp only [List.mem_cons, List.not_mem_nil, or_false] at this
  rcases this with rfl | rfl | rfl | rfl <;> rfl
theorem nws_of {n : Nat} (h : ¬ Txt.contains (S [32, 9, 13, 10]) (S [n]) = true) : cls n ≠ .ws := by
  intro e
  rcases cls_ws e with rfl | rfl | rfl | rfl <;> exact nin_of h (by simp)
theorem mem1 {n k : Nat} (h : Txt.contains (S [k]) (S [n]) = true) : n = k := by have := in_of h; simpa using this
theorem nmem1 {n k : Nat} (h : ¬ Txt.contains (S [k]) (S [n]) = true) : n ≠ k := by have := nin_of h; simpa using this
theorem cls92 {n : Nat} (h : n ≠ 92) : cls n ≠ .esc := fun e => h (cls_esc e)
theorem cls_cases {n : Nat} (h1 : cls n ≠ .ws) (h2 : cls n ≠ .esc) (h3 : cls n ≠ .bad) : cls n = .bare ∨ n = 44 ∨ n = 34 := by
  cases h : cls n with
  | ws => exact absurd h h1
  | esc => exact absurd h h2
  | bad => exact absurd h h3
  | bare => exact .inl rfl
  | comma => exact .inr (.inl (cls_comma h))
  | quote => exact .inr (.inr (cls_quote h))
theorem not_bad {lx : Bool} {st : Sta} {tok : List Nat} {q : Bool} {est : Sta} {n : Nat} (hs : st = .sp ∨ st = .a ∨ st = .c) (h : turn lx st tok q est (some n) ≠ .bad) : cls n ≠ .bad := fun e => h (by rcases hs with rfl | rfl | rfl <;> simp [turn, e])
theorem in_wcS {n : Nat} (h : Txt.contains (S wcS) (S [n]) = true) : n ≠ 44 ∧ n ≠ 34 := by
  have := in_of h
  constructor <;> (rintro rfl; revert this; decide)
theorem in_wcL {n : Nat} (h : Txt.contains (S wcL) (S [n]) = true) : n ≠ 44 ∧ n ≠ 34 := by
  have := in_of h
  constructor <;> (rintro rfl; revert this; decide)
theorem nin_wcL {n : Nat} (h : ¬ Txt.contains (S wcL) (S [n]) = true) : cls n ≠ .bare := fun e => h (bare_f e).2.2.2.2.1
theorem quo_of {n : Nat} (h3 : cls n ≠ .bad) (h : Txt.contains (S [39, 34]) (S [n]) = true) : n = 34 := by
  have := in_of h
  simp only [List.mem_cons, List.not_mem_nil, or_false] at this
  rcases this with rfl | rfl
  · exact absurd rfl h3
  · rfl
theorem nquo_of {n : Nat} (h : ¬ Txt.contains (S [39, 34]) (S [n]) = true) : n ≠ 34 := by have := nin_of h; simp at this; exact this.2
theorem short_list {l : List Nat} (h : l.length ≤ 1) : l = [] ∨ ∃ n, l = [n] := by
  match l, h with
  | [], _ => exact .inl rfl
  | [n], _ => exact .inr ⟨n, rfl⟩
  | _ :: _ :: _, h => simp at h
theorem drop_none {l : List Nat} {p : Nat} (h : l[p]? = none) : l.drop p = [] := List.drop_eq_nil_of_le (List.getElem?_eq_none_iff.mp h)
theorem drop_some {l : List Nat} {p n : Nat} (h : l[p]? = some n) : l.drop p = n :: l.drop (p + 1) := by
  obtain ⟨q, rfl⟩ := List.getElem?_eq_some_iff.mp h
  exact List.drop_eq_getElem_cons q

local macro_rules | `(tactic| walk_at "mem") => `(tactic| repeat (first | with_reducible_and_instances exact List.Mem.head _ | with_reducible_and_instances refine List.Mem.tail _ ?_))
local macro_rules | `(tactic| walk_at "rt") => pure (fst [
  under "PySem.isTrue _ _ _" [
    slim "wpAny_isTrue_BoolOp" "_" "",
    slim "st_in_ac" "ssMd_ww" "s' P'",
    slim "wpAny_isTrue_Compare1" "_" "",
    slim "wpAny_isTrue_Not" "_" "",
    slim "wpAny_isTrue_value" "_w" ""],
  under "PySem.eval (PySem.Expr.Attribute _ _ _) _" [
    par [slim "at_state" "ssM_ww" "t' s' P'", dsi "Mine.Sta.val"],
    slim "at_posix" "ssM_ww" "s' P'",
    slim "at_quotes" "ssM_ww" "t' s' P'",
    slim "at_escape" "ssM_ww" "t' s' P'",
    slim "at_token" "ssM_ww" "t' s' P'",
    slim "at_whitespace" "ssM_ww" "t' s' P'",
    slim "at_com_L" "sssM_ww" "t' s' P'",
    slim "at_com_S" "sssM_ww" "t' s' P'",
    slim "at_wcs_L" "sssM_ww" "t' s' P'",
    slim "at_wcs_S" "sssM_ww" "t' s' P'",
    slim "at_pun_L" "sssM_ww" "t' s' P'",
    slim "at_pun_S" "sssM_ww" "t' s' P'",
    slim "at_wsp_L" "sssM_ww" "s' P'",
    slim "at_wsp_S" "sssM_ww" "s' P'",
    slim "at_escapedquotes" "ssM_ww" "t' s' P'",
    slim "at_debug" "ssM_ww" "t' s' P'"],
  under "PySem.eval _ _" [
    slim "lex_self" "sM_wwd" "",
    slim "c_str" "s_" "t' s' P'",
    slim "c_int" "s_" "t' s' P'",
    slim "wpAny_Constant_none" "_" ""],
  under "PySem.compareOp _ _ _" [
    slim "PyProof.Rows.eq_str" "_" "",
    slim "PySem.SB.contains" "_" "",
    slim "is_none_none" "_" "",
    slim "is_none_str" "_" "",
    slim "PySem.SB.notContains" "_" "",
    slim "PyProof.Rows.ne_str" "_" "",
    slim "ge_int" "_" ""],
  under "PySem.truthy _" [
    slim "wpAny_truthy_bool" "_" "",
    slim "t_str1" "s_" "s' P'",
    slim "t_str0" "s_" "s' P'",
    slim "t_str" "qs_" "s' P'"],
  slim "ite_pos" "K_" "",
  slim "ite_neg" "K_" "",
  under "PySem.exec (PySem.Stmt.Assign _ _ _) _" [
    slim "asg_state_n" "ssM_ww" "s' P'",
    slim "asg_state_c" "ssMA_ww" "s' P'" "Mine.Sta.a",
    slim "asg_state_c" "ssMC_ww" "s' P'" "Mine.Sta.c",
    slim "asg_state_c" "ssMP_ww" "s' P'" "Mine.Sta.sp",
    slim "asg_token_x" "ssMM_wwwd" "s' P'",
    slim "asg_state_x" "ssMMW_wwwd" "s' P'" "Mine.Sta.q",
    slim "asg_state_x" "ssMMW_wwwd" "s' P'" "Mine.Sta.esc",
    slim "asg_state_x" "ssMMW_wwwd" "s' P'" "Mine.Sta.a",
    slim "asg_quo" "s_ww" "s' P'",
    slim "asg_est_a" "s_ww" "t' s' P'",
    slim "asg_est_s" "sWs_www" "t' s' P'",
    slim "asg_token_0" "ssM_ww" "s' P'"],
  under "PySem.exec _ _" [
    slim "wpAny_If" "_" "",
    slim "wpAny_Break" "_" "",
    slim "wpAny_Continue" "_" "",
    slim "aug_token_esc" "ssMo_ww" "s' P'",
    slim "aug_token" "ssMMQ_wwwd" "s' P'",
    slim "push_back" "sssMM_wwwdwww" "s' P'"],
  slim "execs_one" "_" "",
  slim "wpAny_execs_cons" "_" "",
  slim "wpAny_execs_nil" "_" "",
  slim "wpAny_allTrue_And_cons" "_" "",
  slim "wpAny_allTrue_Or_cons" "_" "",
  slim "wpAny_allTrue_And_nil" "_" "",
  slim "wpAny_allTrue_Or_nil" "_" "",
  dsi ""])

theorem rt_spec {R : Result → Shared → Prop} {st : Sta} {pos : Nat} {pbk : List Nat} {es ei : List DictEntry} {ne ni : Nat} {kk : Int} {ts : List Value} {res : TokRes}
    (o : c.Ok) (hord : c.dio < c.io) (a : Amb c.w mg mb mean 5 A A₀ base c.g env outer c.L) (F : Fr c.g c.L s.heap m) (N : News c.g c.L s.heap (c.led es ne ei ni kk ts)) (D : LexD c es st []) (I : IoD c ei pos) (T : All2 (fun v n => ∃ t, v = .str (S [n]) t) ts pbk)
    (hst : st = .no ∨ st = .sp) (hpb : pbk.length ≤ 1) (hpx : c.lx = false → pbk = []) (hres : runTok c.lx st [] false .sp (pbk ++ c.tx.drop pos) = res) (hnb : res ≠ .bad)
    (k : ∀ v h' tk' es' ne' ei' ni' kk' ts' st' tok' q pos' pbk', res = .done st' tok' q (pbk' ++ c.tx.drop pos') → (emit tok' q = true → ∃ t, v = .str (S tok') t) → (emit tok' q = false → v = .none) → pbk'.length ≤ 1 → (c.lx = false → pbk' = []) →
      Fr c.g c.L h' m → News c.g c.L h' (c.led es' ne' ei' ni' kk' ts') → LexD c es' st' [] → IoD c ei' pos' → All2 (fun v n => ∃ t, v = .str (S [n]) t) ts' pbk' → R (.ok (.ret v)) { s with heap := h', toks := tk' })
    (ke : ∀ esc e t tt g₂ h' tk' es' ne' ei' ni' kk' ts', res = .fail esc → Fr c.g c.L g₂ m → g₂.UpToSlots h' → RaisedS base g₂ (env :: outer) e (.type "ValueError") t [.str (if esc then "No escaped character" else "No closing quotation") tt] (c.led es' ne' ei' ni' kk' ts') h' →
      R (.error (.ref e)) { s with heap := h', toks := tk' }) :
    codeAny (model Challenge.rw_mq0398_01.row.prog c.w) A (.call (.ref 695) ⟨[.ref c.x], []⟩) R s := by
  refine' enter a F N ?ho ?hcd ?hb ?hl ?_ ?c1 ?c2 ?c3 ?c4
  case ho => walk_at "ho"
  case hcd => k_is
  case hb => exact BindsTo.of_eq rfl
  case hl => exact locs rfl
  case c1 => exact rfl
  case c2 => exact rfl
  case c3 => exact rfl
  case c4 => decide
  intro g L' h' FG' Am F' N'
  dsimp only
  have P0 : LexSt (c.at g L' s) [(Str.ofString "self", .ref (c.at g L' s).x)] st [] pos pbk { s with heap := h', toks := s.toks + 1 } :=
    ⟨h', _, _, es, ne, ei, ni, kk, ts, rfl, F', fun p hp => by rw [List.mem_singleton.mp hp]; rfl, N', D.at, I.at, T⟩
  have od : (c.at g L' s).Ok := o.at Am.X
  have hdo : (c.at g L' s).dio < (c.at g L' s).io := hord
  have hL : L' = (c.at g L' s).L := rfl
  have hg : g = (c.at g L' s).g := rfl
  have hdw : c.w = (c.at g L' s).w := rfl
  have hdl : c.lx = (c.at g L' s).lx := rfl
  have hdt : c.tx = (c.at g L' s).tx := rfl
  generalize hd : c.at g L' s = d at P0 od hdo hL hg hdw hdl hdt
  rw [hdl, hdt] at hres
  rw [hdl] at hpx
  rw [hdw] at Am ⊢
  have K : ∀ v s1 st' tok' q pos' pbk' l, res = .done st' tok' q (pbk' ++ d.tx.drop pos') → (emit tok' q = true → ∃ t, v = .str (S tok') t) → (emit tok' q = false → v = .none) → pbk'.length ≤ 1 → (d.lx = false → pbk' = []) →
      LexSt d l st' [] pos' pbk' s1 → LeaveK c.g c.L m g R v s1 := by
    intro v s1 st' tok' q pos' pbk' l h1 h2 h3 h4 h5 ⟨hh, tk, mm, es', ne', ei', ni', kk', ts', e1, F1, _, N1, D1, I1, T1⟩
    subst hd
    rw [e1]
    exact leaveK_ F1 N1 (fun F2 N2 => k v _ tk es' ne' ei' ni' kk' ts' st' tok' q pos' pbk' h1 h2 h3 h4 h5 F2 N2 D1.un I1.un T1)
  have KE : ∀ (esc : Bool) (x : Str) e t tt h4 tk es ne ei ni kk ts, res = .fail esc → x = (if esc then Str.ofString "No escaped character" else Str.ofString "No closing quotation") → d.g.UpToSlots h4 → RaisedS base d.g (env :: outer) e (.type "ValueError") t [.str x tt] (d.led es ne ei ni kk ts) h4 → R (.error (.ref e)) { d.s0 with heap := h4, toks := tk } := by
    subst hd
    intro esc x e t tt h4 tk es ne ei ni kk ts h1 hx h2 h3
    subst hx
    exact ke esc e t tt _ h4 tk es ne ei ni kk ts h1 FG' h2 h3
  subst hg hL
  clear hd F' N'
  refine (?H : ∀ s1, LexSt d [(Str.ofString "self", .ref d.x)] st [] pos pbk s1 → wpAny _ _ _ _ _ s1) _ P0
  clear P0
  intro s1 P1
  refine wpAny_execs_cons (wpAny_Assign_Name (wpAny_Constant_bool ?_))
  refine st_to (l' := [(Str.ofString "self", .ref d.x), (Str.ofString "quoted", .bool false)]) P1 (fun p hp => ?_) fun s2 P2 => ?_
  · simp only [List.mem_cons, List.not_mem_nil, or_false] at hp
    rcases hp with rfl | rfl
    · exact .inr ⟨.head _, ne4⟩
    · exact .inl rfl
  dsimp only
  refine wpAny_execs_cons (wpAny_Assign_Name (c_str P2 fun t3 s3 P3 => ?_))
  refine st_to (l' := l3 d.x false (.str (S [32]) t3)) P3 (fun p hp => ?_) fun s4 P4 => ?_
  · simp only [l3, List.mem_cons, List.not_mem_nil, or_false] at hp
    rcases hp with rfl | rfl | rfl
    · exact .inr ⟨.head _, ne6⟩
    · exact .inr ⟨.tail _ (.head _), ne5.symm⟩
    · exact .inl rfl
  dsimp only
  refine wpAny_execs_cons (wpAny_mono (Q := WhPost d res) (while_inv (WhInv d res) (by passes_own) ?turn (pbk ++ d.tx.drop pos).length ?init) ?after fun _ _ e => e)
  case init =>
    refine ⟨st, [], false, .sp, pos, pbk, t3, P4, hpb, hpx, ?_, ?_, ?_, rfl, hres⟩
    · rintro rfl; rcases hst with h | h <;> cases h
    · rintro rfl; rcases hst with h | h <;> cases h
    · have := P4.io
      have e : (S d.tx).length = d.tx.length := by simp [Str.length]
      simp only [List.length_append, List.length_drop, List.length_nil]; omega
  case after =>
    rintro f s5 ⟨rfl, st5, tok5, q5, te5, pos5, pbk5, hr5, hl5, hx5, hz5, P5⟩
    dsimp only
    clear P4 P3 P2 P1 KE ke k hres hst hpb hpx T I D N F
    exact by
      refine wpAny_execs_cons (wpAny_Assign_Name (at_token od P5 (.head _) fun t6 s6 P6 => ?_))
      refine st_to (l' := [(Str.ofString "self", .ref d.x), (Str.ofString "quoted", .bool q5), (Str.ofString "result", .str (S tok5) t6)]) P6 (fun p hp => ?_) fun s7 P7 => ?_
      · simp only [List.mem_cons, List.not_mem_nil, or_false] at hp
        rcases hp with rfl | rfl | rfl
        · exact .inr ⟨.head _, (by decide +kernel : Str.ofString "self" ≠ Str.ofString "result")⟩
        · exact .inr ⟨.tail _ (.head _), (by decide +kernel : Str.ofString "quoted" ≠ Str.ofString "result")⟩
        · exact .inl rfl
      dsimp only
      refine wpAny_execs_cons (asg_token_0 od P7 (.head _) fun s8 P8 => ?_)
      dsimp only
      clear P5 P6 P7
      refine wpAny_execs_cons (wpAny_mono (Q := fun f s' => f = .next ∧ ∃ v, (emit tok5 q5 = true → v = .str (S tok5) t6) ∧ (emit tok5 q5 = false → v = .none) ∧ LexSt d [(Str.ofString "self", .ref d.x), (Str.ofString "quoted", .bool q5), (Str.ofString "result", v)] st5 [] pos5 pbk5 s') ?_ ?_ fun _ _ e => e)
      · have keepIt : ∀ s', emit tok5 q5 = true → LexSt d [(Str.ofString "self", .ref d.x), (Str.ofString "quoted", .bool q5), (Str.ofString "result", .str (S tok5) t6)] st5 [] pos5 pbk5 s' → (Flow.next = .next ∧ ∃ v, (emit tok5 q5 = true → v = .str (S tok5) t6) ∧ (emit tok5 q5 = false → v = .none) ∧ LexSt d [(Str.ofString "self", .ref d.x), (Str.ofString "quoted", .bool q5), (Str.ofString "result", v)] st5 [] pos5 pbk5 s') :=
          fun s' he P => ⟨rfl, _, fun _ => rfl, fun h => by (rw [he] at h; cases h), P⟩
        exact by
          repeat' (walk_at "rt")
          refine ite_em (fun hq => ?_) (fun hq => ?_)
          · repeat' (walk_at "rt")
            refine ite_em (fun ht => ?_) (fun ht => ?_)
            · repeat' (walk_at "rt")
              have hq' : q5 = false := by simpa using hq
              have ht' : tok5 = [] := by
                have e := eq_of_beq ht
                rw [lit_nil] at e
                exact S_inj e
              refine wpAny_Assign_Name (wpAny_Constant_none ?_)
              refine st_to (l' := [(Str.ofString "self", .ref d.x), (Str.ofString "quoted", .bool q5), (Str.ofString "result", .none)]) (by assumption) (fun p hp => ?_) fun s9 P9 => ?_
              · simp only [List.mem_cons, List.not_mem_nil, or_false] at hp
                rcases hp with rfl | rfl | rfl
                · exact .inr ⟨.head _, (by decide +kernel : Str.ofString "self" ≠ Str.ofString "result")⟩
                · exact .inr ⟨.tail _ (.head _), (by decide +kernel : Str.ofString "quoted" ≠ Str.ofString "result")⟩
                · exact .inl rfl
              refine ⟨rfl, _, fun h => ?_, fun _ => rfl, P9⟩
              rw [hq', ht'] at h; cases h
            · repeat' (walk_at "rt")
              refine keepIt _ ?_ (by assumption)
              cases tok5 with
              | nil => exact absurd (by rw [lit_nil]; exact beq_self_eq_true _) ht
              | cons a l => rfl
          · repeat' (walk_at "rt")
            refine keepIt _ ?_ (by assumption)
            have : q5 = true := by simpa using hq
            rw [this]; exact emit_q _
      · rintro f s9 ⟨rfl, v, hv1, hv2, P9⟩
        dsimp only
        refine wpAny_execs_cons (wpAny_If (wpAny_isTrue_Compare1 (at_debug od P9 (.head _) fun t8 s8 P8 => c_int P8 fun t9 s9 P9 => PyProof.Rows.gt_int (wpAny_truthy_bool ?_))))
        refine ite_neg (by decide) (wpAny_execs_nil ?_)
        dsimp only
        refine wpAny_execs_cons (wpAny_Return_some (lex_self P9 (.tail _ (.tail _ (.head _))) ?_))
        dsimp only
        exact K v _ st5 tok5 q5 pos5 pbk5 _ hr5 (fun h => ⟨t6, hv1 h⟩) hv2 hl5 hx5 P9
  case turn =>
    rintro n s5 ⟨st5, tok5, q5, est5, pos5, pbk5, te5, P5, hl5, hx5, he5, hc5, hz5, hn5, hr5⟩
    refine wpAny_isTrue_value (wpAny_Constant_bool (wpAny_truthy_bool ?_))
    refine ite_pos rfl ?_
    have Am2 := Am.less (k := 2) (by decide)
    have Am3 := Am.less (k := 3) (by decide)
    refine wpAny_execs_cons (wpAny_mono (Q := ProPost d q5 (est5.val te5) st5 tok5 (pbk5 ++ d.tx.drop pos5)) ?pro ?rest fun _ _ e => e)
    case pro =>
      refine wpAny_If (wpAny_isTrue_BoolOp (wpAny_allTrue_And_cons (wpAny_isTrue_value ?_)))
      cases hx : d.lx with
      | false =>
        obtain rfl := hx5 hx
        refine at_pun_S hx Am2 P5 (.head _) fun t6 s6 P6 => ?_
        refine t_str (by decide) P6 fun s7 P7 => ?_
        refine ite_neg (by decide) ?_
        refine ite_neg (by decide) ?_
        refine wpAny_execs_cons (wpAny_Assign_Name (MethodCall_ (at_instream od P7 (.head _) fun s8 P8 => io_getRead od P8 (pro_read od hdo Am3 P8 ?_ ?_))))
        · intro t s8 hn P8
          exact st_next P8 fun s9 P9 => wpAny_execs_nil ⟨rfl, none, t, pos5, by rw [List.nil_append, drop_none hn]; rfl, by rw [List.nil_append, drop_none hn]; rfl, P9⟩
        · intro n t s8 hn P8
          exact st_next P8 fun s9 P9 => wpAny_execs_nil ⟨rfl, some n, t, pos5 + 1, by rw [List.nil_append, drop_some hn]; rfl, by rw [List.nil_append, drop_some hn]; rfl, P9⟩
      | true =>
        refine at_pun_L hx Am2 P5 (.head _) fun t6 s6 P6 => ?_
        refine t_str (by decide) P6 fun s7 P7 => ?_
        refine ite_pos (by decide) ?_
        refine wpAny_allTrue_And_cons (wpAny_isTrue_value ?_)
        refine at_pushback_chars od hx P7 (.head _) fun s8 P8 => ?_
        rcases short_list hl5 with rfl | ⟨nn, rfl⟩
        ·
          refine tr_pc0 hx P8 fun s9 P9 => ?_
          refine ite_neg (by decide) ?_
          refine ite_neg (by decide) ?_
          refine wpAny_execs_cons (wpAny_Assign_Name (MethodCall_ (at_instream od P9 (.head _) fun s8 P8 => io_getRead od P8 (pro_read od hdo Am3 P8 ?_ ?_))))
          · intro t s8 hn P8
            exact st_next P8 fun s9 P9 => wpAny_execs_nil ⟨rfl, none, t, pos5, by rw [List.nil_append, drop_none hn]; rfl, by rw [List.nil_append, drop_none hn]; rfl, P9⟩
          · intro n t s8 hn P8
            exact st_next P8 fun s9 P9 => wpAny_execs_nil ⟨rfl, some n, t, pos5 + 1, by rw [List.nil_append, drop_some hn]; rfl, by rw [List.nil_append, drop_some hn]; rfl, P9⟩
        ·
          refine tr_pc1 hx P8 fun s9 P9 => ?_
          refine ite_pos (by decide) ?_
          refine wpAny_allTrue_And_nil ?_
          refine ite_pos (by decide) ?_
          refine wpAny_execs_cons (wpAny_Assign_Name (MethodCall_ (at_pushback_chars od hx P9 (.head _) fun s10 P10 => pc_getPop hx P10 (callWith_method0 (pc_pop od hx P10 ?_)))))
          intro t s8 P8
          exact st_next P8 fun s9 P9 => wpAny_execs_nil ⟨rfl, some nn, t, pos5, rfl, rfl, P9⟩
    case rest =>
      rintro f s6 ⟨rfl, nx, t6, pos6, hh6, ht6, P6⟩
      dsimp only
      refine wpAny_execs_cons (wpAny_mono (Q := fun f s' => f = .next ∧ LexSt d (l4 d.x q5 (est5.val te5) (.str (S nx.toList) t6)) st5 tok5 pos6 [] s') ?ln ?rest2 fun _ _ e => e)
      case ln =>
        refine wpAny_If (wpAny_isTrue_Compare1 (lex_self P6 (.tail _ (.tail _ (.tail _ (.head _)))) (c_str P6 fun t7 s7 P7 => PyProof.Rows.eq_str (wpAny_truthy_bool ?_))))
        split
        · exact wpAny_execs_cons (aug_lineno od P7 (.head _) fun s8 P8 => wpAny_execs_nil ⟨rfl, P8⟩)
        · exact wpAny_execs_nil ⟨rfl, P7⟩
      rintro f s7 ⟨rfl, P7⟩
      dsimp only
      refine wpAny_execs_cons (wpAny_If (wpAny_isTrue_Compare1 (at_debug od P7 (.head _) fun t8 s8 P8 => c_int P8 fun t9 s9 P9 => ge_int (wpAny_truthy_bool ?_))))
      refine ite_neg (by decide) (wpAny_execs_nil ?_)
      dsimp only
      clear P6 P7
      have hb5 := run_bad hr5 hnb
      have he6 := fun e h => run_err (e := e) hr5 h
      rw [hh6] at hb5 he6
      refine wpAny_mono (Q := TurnPost d pos6 nx (turn d.lx st5 tok5 q5 est5 nx)) ?turns ?join (fun _ _ e => e)
      case join =>
        intro f s10 hT
        have := turn_join hr5 hh6 ht6 he5 hc5 (by rw [← hn5]; exact hz5) hT
        rw [← hn5] at this
        cases f <;> first | exact this | exact this.elim
      clear P8 P5 hx5 hl5 hnb FG' a F N D I T hst hpb hpx hres Am3
      have hz7 : tok5.length ≤ 5000 := by omega
      clear hz5
      exact by
        cases st5
        · exact by
            repeat' (walk_at "rt")
            exact tp_brk (by assumption) rfl rfl
        · exact by
            clear he5 hc5
            cases nx with
            | none =>
              dsimp only [Option.toList] at P9
              exact by
                repeat' (walk_at "rt")
                exact tp_brk (by assumption) rfl rfl
            | some n =>
              dsimp only [Option.toList] at P9
              have hbd := not_bad (.inl rfl) hb5
              have f0 := no_nil (n := n)
              clear hb5 he6
              exact by
                repeat' (walk_at "rt")
                refine ite_em (fun f1 => ?_) (fun f1 => ?_)
                · have hcl := ws_of f1
                  repeat' (walk_at "rt")
                  refine ite_em (fun htk => ?_) (fun htk => ?_)
                  · repeat' (walk_at "rt")
                    exact tp_brk (by assumption) rfl (by simp [turn, hcl, emit, htk])
                  · repeat' (walk_at "rt")
                    refine ite_em (fun hq => ?_) (fun hq => ?_)
                    · repeat' (walk_at "rt")
                      exact tp_brk (by assumption) rfl (by simp [turn, hcl, emit, hq])
                    · repeat' (walk_at "rt")
                      exact tp_go (by assumption) (.inr rfl) (by simp [turn, hcl, emit, htk, hq])
                have hn1 := nws_of f1
                cases hx : d.lx
                · repeat' (walk_at "rt")
                  refine ite_em (fun f2 => ?_) (fun f2 => ?_)
                  · obtain rfl := mem1 f2
                    repeat' (walk_at "rt")
                    exact tp_go (by assumption) (.inl rfl) rfl
                  have hc := cls_cases hn1 (cls92 (nmem1 f2)) hbd
                  repeat' (walk_at "rt")
                  refine ite_em (fun f3 => ?_) (fun f3 => ?_)
                  · repeat' (walk_at "rt")
                    have hcl : cls n = .bare := hc.resolve_right fun h => h.elim (in_wcS f3).1 (in_wcS f3).2
                    exact tp_go (by assumption) (.inl rfl) (by simp [turn, hcl])
                  repeat' (walk_at "rt")
                  refine ite_em (fun f4 => ?_) (fun f4 => ?_)
                  · obtain rfl := quo_of hbd f4
                    repeat' (walk_at "rt")
                    exact tp_go (by assumption) (.inl rfl) rfl
                  repeat' (walk_at "rt")
                  refine tp_go (by assumption) (.inl rfl) ?_
                  rcases hc with hc | rfl | rfl
                  · simp [turn, hc]
                  · simp [turn, cls]
                  · exact absurd rfl (nquo_of f4)
                · repeat' (walk_at "rt")
                  refine ite_em (fun f5 => ?_) (fun f5 => ?_)
                  · obtain rfl := mem1 f5
                    exact absurd rfl hbd
                  repeat' (walk_at "rt")
                  refine ite_em (fun f2 => ?_) (fun f2 => ?_)
                  · obtain rfl := mem1 f2
                    repeat' (walk_at "rt")
                    exact tp_go (by assumption) (.inl rfl) rfl
                  have hc := cls_cases hn1 (cls92 (nmem1 f2)) hbd
                  repeat' (walk_at "rt")
                  refine ite_em (fun f3 => ?_) (fun f3 => ?_)
                  · repeat' (walk_at "rt")
                    have hcl : cls n = .bare := hc.resolve_right fun h => h.elim (in_wcL f3).1 (in_wcL f3).2
                    exact tp_go (by assumption) (.inl rfl) (by simp [turn, hcl])
                  have hc := hc.resolve_left (nin_wcL f3)
                  repeat' (walk_at "rt")
                  refine ite_em (fun f6 => ?_) (fun f6 => ?_)
                  · obtain rfl := mem1 f6
                    repeat' (walk_at "rt")
                    exact tp_go (by assumption) (.inl rfl) rfl
                  obtain rfl := hc.resolve_left (nmem1 f6)
                  repeat' (walk_at "rt")
                  exact tp_go (by assumption) (.inl rfl) rfl
        · exact by
            clear he5 hc5
            cases nx with
            | none =>
              dsimp only [Option.toList] at P9
              exact by
                repeat' (walk_at "rt")
                exact tp_brk (by assumption) rfl rfl
            | some n =>
              dsimp only [Option.toList] at P9
              have hbd := not_bad (.inr (.inl rfl)) hb5
              have f0 := no_nil (n := n)
              have f0' := no_nil' (n := n)
              clear he6
              exact by
                repeat' (walk_at "rt")
                refine ite_em (fun f1 => ?_) (fun f1 => ?_)
                · have hcl := ws_of f1
                  repeat' (walk_at "rt")
                  refine ite_em (fun htk => ?_) (fun htk => ?_)
                  · repeat' (walk_at "rt")
                    exact tp_brk (by assumption) rfl (by simp [turn, hcl, emit, htk])
                  · repeat' (walk_at "rt")
                    refine ite_em (fun hq => ?_) (fun hq => ?_)
                    · repeat' (walk_at "rt")
                      exact tp_brk (by assumption) rfl (by simp [turn, hcl, emit, hq])
                    · repeat' (walk_at "rt")
                      exact tp_go (by assumption) (.inr rfl) (by simp [turn, hcl, emit, htk, hq])
                have hn1 := nws_of f1
                cases hx : d.lx
                · repeat' (walk_at "rt")
                  refine ite_em (fun f4 => ?_) (fun f4 => ?_)
                  · obtain rfl := quo_of hbd f4
                    repeat' (walk_at "rt")
                    exact tp_go (by assumption) (.inl rfl) rfl
                  repeat' (walk_at "rt")
                  refine ite_em (fun f2 => ?_) (fun f2 => ?_)
                  · obtain rfl := mem1 f2
                    repeat' (walk_at "rt")
                    exact tp_go (by assumption) (.inl rfl) rfl
                  have hc := cls_cases hn1 (cls92 (nmem1 f2)) hbd
                  have ht : turn false .a tok5 q5 est5 (some n) = .go .a (tok5 ++ [n]) q5 est5 := by
                    rcases hc with hc | rfl | rfl
                    · simp [turn, hc]
                    · simp [turn, cls]
                    · exact absurd rfl (nquo_of f4)
                  repeat' (walk_at "rt")
                  refine ite_em (fun f3 => ?_) (fun f3 => ?_)
                  · repeat' (walk_at "rt")
                    exact tp_go (by assumption) (.inl rfl) ht
                  repeat' (walk_at "rt")
                  exact tp_go (by assumption) (.inl rfl) ht
                · repeat' (walk_at "rt")
                  refine ite_em (fun f5 => ?_) (fun f5 => ?_)
                  · obtain rfl := mem1 f5
                    exact absurd rfl hbd
                  repeat' (walk_at "rt")
                  refine ite_em (fun f4 => ?_) (fun f4 => ?_)
                  · obtain rfl := quo_of hbd f4
                    repeat' (walk_at "rt")
                    exact tp_go (by assumption) (.inl rfl) rfl
                  repeat' (walk_at "rt")
                  refine ite_em (fun f2 => ?_) (fun f2 => ?_)
                  · obtain rfl := mem1 f2
                    repeat' (walk_at "rt")
                    exact tp_go (by assumption) (.inl rfl) rfl
                  have hc := cls_cases hn1 (cls92 (nmem1 f2)) hbd
                  repeat' (walk_at "rt")
                  refine ite_em (fun f3 => ?_) (fun f3 => ?_)
                  · repeat' (walk_at "rt")
                    have hcl : cls n = .bare := hc.resolve_right fun h => h.elim (in_wcL f3).1 (in_wcL f3).2
                    exact tp_go (by assumption) (.inl rfl) (by simp [turn, hcl])
                  obtain rfl := (hc.resolve_left (nin_wcL f3)).resolve_right (nquo_of f4)
                  rw [hx] at hb5
                  repeat' (walk_at "rt")
                  refine ite_em (fun htk => ?_) (fun htk => ?_)
                  · repeat' (walk_at "rt")
                    exact tp_back (by assumption) rfl (by simp [turn, cls, emit, htk])
                  · repeat' (walk_at "rt")
                    refine ite_em (fun hq => ?_) (fun hq => ?_)
                    · repeat' (walk_at "rt")
                      exact tp_back (by assumption) rfl (by simp [turn, cls, emit, hq])
                    · exact absurd (by simp [turn, cls, emit, htk, hq]) hb5
        · exact by
            have hx : d.lx = true := hc5 rfl
            clear he5 hc5
            rw [hx] at hb5
            rw [hx]
            cases nx with
            | none =>
              dsimp only [Option.toList] at P9
              exact by
                repeat' (walk_at "rt")
                exact tp_brk (by assumption) rfl rfl
            | some n =>
              dsimp only [Option.toList] at P9
              have hbd := not_bad (.inr (.inr rfl)) hb5
              clear he6
              exact by
                repeat' (walk_at "rt")
                refine ite_em (fun f1 => ?_) (fun f1 => ?_)
                · have hcl := ws_of f1
                  repeat' (walk_at "rt")
                  refine ite_em (fun htk => ?_) (fun htk => ?_)
                  · repeat' (walk_at "rt")
                    exact tp_brk (by assumption) rfl (by simp [turn, hcl, emit, htk])
                  · repeat' (walk_at "rt")
                    refine ite_em (fun hq => ?_) (fun hq => ?_)
                    · repeat' (walk_at "rt")
                      exact tp_brk (by assumption) rfl (by simp [turn, hcl, emit, hq])
                    · repeat' (walk_at "rt")
                      exact tp_go (by assumption) (.inr rfl) (by simp [turn, hcl, emit, htk, hq])
                have hn1 := nws_of f1
                have f1' : (!Txt.contains (S [32, 9, 13, 10]) (S [n])) = true := by simpa using f1
                repeat' (walk_at "rt")
                refine ite_em (fun f5 => ?_) (fun f5 => ?_)
                · obtain rfl := mem1 f5
                  exact absurd rfl hbd
                repeat' (walk_at "rt")
                refine ite_em (fun f6 => ?_) (fun f6 => ?_)
                · obtain rfl := mem1 f6
                  repeat' (walk_at "rt")
                  exact tp_go (by assumption) (.inl rfl) rfl
                repeat' (walk_at "rt")
                refine tp_back (by assumption) rfl ?_
                have hn := nmem1 f6
                cases hcl : cls n with
                | ws => exact absurd hcl hn1
                | bad => exact absurd hcl hbd
                | comma => exact absurd (cls_comma hcl) hn
                | _ => simp [turn, hcl]
        · exact by
            clear he5 hc5
            cases nx with
            | none =>
              dsimp only [Option.toList] at P9
              exact by
                repeat' (walk_at "rt")
                rename LexSt _ _ _ _ _ _ _ => PX
                clear P9
                obtain ⟨hX, tX, mX, esX, neX, eiX, niX, kX, tsX, rfl, FX, _, NX, DX, IX, TX⟩ := PX
                obtain ⟨BX, XX, TTX, hAX, hfX, hkX, hdX, huX, hhX⟩ := Am2
                refine Raise_madeB PySem.F.excCall_ValueError PySem.F.excRaise_ValueError hhX (tp_builtin (v := .type "ValueError") (by assumption) (by assumption) PyProof.Rows.Boot.«ValueError» ⟨rfl, ?_⟩)
                refine spliced_cons (x := eval _ _) ?_
                refine wpAny_Constant_str ?_
                refine spliced_nil ⟨by show 1 ≤ sizeLine; decide, fun h3 e3 hM => ?_⟩
                exact leave_raiseS BX (Heap.MadeExc.of hM) FX NX (fun h4 t4 R4 _ U4 => KE _ _ _ _ _ _ _ _ _ _ _ _ _ (he6 false rfl) rfl U4 R4)
            | some n =>
              dsimp only [Option.toList] at P9
              clear he6 hb5
              exact by
                repeat' (walk_at "rt")
                refine ite_em (fun f1 => ?_) (fun f1 => ?_)
                · obtain rfl : n = 34 := by simpa using S_inj (eq_of_beq f1)
                  repeat' (walk_at "rt")
                  exact tp_go (by assumption) (.inl rfl) rfl
                have hn : n ≠ 34 := by rintro rfl; exact f1 (by decide +kernel)
                repeat' (walk_at "rt")
                refine ite_em (fun f2 => ?_) (fun f2 => ?_)
                · obtain rfl := mem1 f2
                  repeat' (walk_at "rt")
                  exact tp_go (by assumption) (.inl rfl) rfl
                repeat' (walk_at "rt")
                exact tp_go (by assumption) (.inl rfl) (by simp [turn, hn, nmem1 f2])
        · exact by
            cases nx with
            | none =>
              dsimp only [Option.toList] at P9
              exact by
                repeat' (walk_at "rt")
                rename LexSt _ _ _ _ _ _ _ => PX
                clear P9
                obtain ⟨hX, tX, mX, esX, neX, eiX, niX, kX, tsX, rfl, FX, _, NX, DX, IX, TX⟩ := PX
                obtain ⟨BX, XX, TTX, hAX, hfX, hkX, hdX, huX, hhX⟩ := Am2
                refine Raise_madeB PySem.F.excCall_ValueError PySem.F.excRaise_ValueError hhX (tp_builtin (v := .type "ValueError") (by assumption) (by assumption) PyProof.Rows.Boot.«ValueError» ⟨rfl, ?_⟩)
                refine spliced_cons (x := eval _ _) ?_
                refine wpAny_Constant_str ?_
                refine spliced_nil ⟨by show 1 ≤ sizeLine; decide, fun h3 e3 hM => ?_⟩
                exact leave_raiseS BX (Heap.MadeExc.of hM) FX NX (fun h4 t4 R4 _ U4 => KE _ _ _ _ _ _ _ _ _ _ _ _ _ (he6 true rfl) rfl U4 R4)
            | some n =>
              dsimp only [Option.toList] at P9
              clear he6 hb5
              exact by
                rcases he5 rfl with rfl | rfl
                · dsimp only [Sta.val] at P9
                  repeat' (walk_at "rt")
                  exact tp_go (est' := .a) (te := te5) (by assumption) (.inl rfl) (by simp [turn])
                · dsimp only [Sta.val] at P9
                  repeat' (walk_at "rt")
                  refine ite_em (fun f1 => ?_) (fun f1 => ?_)
                  · have hn1 : n ≠ 92 := by rintro rfl; exact absurd f1 (by decide +kernel)
                    repeat' (walk_at "rt")
                    refine ite_em (fun f2 => ?_) (fun f2 => ?_)
                    · have hn2 : n ≠ 34 := by rintro rfl; exact absurd f2 (by decide +kernel)
                      repeat' (walk_at "rt")
                      exact tp_go (est' := .q) (te := te5) (by assumption) (.inl rfl) (by simp [turn, hn1, hn2])
                    · obtain rfl : n = 34 := by simpa using f2
                      repeat' (walk_at "rt")
                      exact tp_go (est' := .q) (te := te5) (by assumption) (.inl rfl) (by simp [turn])
                  · obtain rfl : n = 92 := by simpa using f1
                    repeat' (walk_at "rt")
                    exact tp_go (est' := .q) (te := te5) (by assumption) (.inl rfl) (by simp [turn])
end
end Mine
/-! GT -/
namespace Mine
open PySem PySem.W PySem.Calls PyProof.Rows PySem.Spec
theorem fill_gt : ∀ (w : World) (h : Heap), (Mine.hd.heap_39 w.params).In h → PySem.Challenge.rw_mq0398_01.row.prog = PySem.Challenge.rw_mq0398_01.row.prog := by
  k_fill
  intros; rfl
section
variable {c : LC} {A A₀ : Around} {mg mb : Str → Option Value} {mean : ExcName → Option Value} {base h₀ : Heap} {env : Env} {outer : List Env} {L : Addr} {s : Shared} {m : Str → Option Value} {E : Value → Shared → Prop} {l : List (Str × Value)} {cn : Str} {cs : Scope} {f : Addr} {ccd : Value}

noncomputable def faultOf (esc : Bool) : Str := if esc then Str.ofString "No escaped character" else Str.ofString "No closing quotation"
/-- read_token, where the lexer's state is known -/
theorem lex_rt {Q : Value → Shared → Prop} {st : Sta} {pos : Nat} {pbk : List Nat} {res : TokRes} (o : c.Ok) (hord : c.dio < c.io) (am : Amb c.w mg mb mean 5 A A₀ base c.g env outer c.L) (P0 : LexSt c l st [] pos pbk s)
    (hst : st = .no ∨ st = .sp) (hpb : pbk.length ≤ 1) (hpx : c.lx = false → pbk = []) (hres : runTok c.lx st [] false .sp (pbk ++ c.tx.drop pos) = res) (hnb : res ≠ .bad)
    (k : ∀ v s' st' tok' q pos' pbk', res = .done st' tok' q (pbk' ++ c.tx.drop pos') → (emit tok' q = true → ∃ t, v = .str (S tok') t) → (emit tok' q = false → v = .none) → pbk'.length ≤ 1 → (c.lx = false → pbk' = []) →
      LexSt c l st' [] pos' pbk' s' → Q v s')
    (ke : ∀ esc e t tt g₂ m' h' tk' es' ne' ei' ni' kk' ts', res = .fail esc → Fr c.g c.L g₂ m' → g₂.UpToSlots h' → RaisedS base g₂ (env :: outer) e (.type "ValueError") t [.str (faultOf esc) tt] (c.led es' ne' ei' ni' kk' ts') h' →
      E (.ref e) { c.s0 with heap := h', toks := tk' }) :
    wpAny (model Challenge.rw_mq0398_01.row.prog c.w) A (call (.ref 695) [.ref c.x]) Q E s := by
  obtain ⟨h, tk, m, es, ne, ei, ni, kk, ts, rfl, F, hm, N, D, I, T⟩ := P0
  refine by_code (rt_spec o hord am F N D I T hst hpb hpx hres hnb ?_ ?_)
  · intro v h' tk' es' ne' ei' ni' kk' ts' st' tok' q pos' pbk' h1 h2 h3 h4 h5 F' N' D' I' T'
    exact k v _ st' tok' q pos' pbk' h1 h2 h3 h4 h5 ⟨h', tk', m, es', ne', ei', ni', kk', ts', rfl, F', hm, N', D', I', T'⟩
  · intro esc e t tt g₂ h' tk' es' ne' ei' ni' kk' ts' h1 h2 h3 h4
    exact ke esc e t tt g₂ m h' tk' es' ne' ei' ni' kk' ts' h1 h2 h3 h4
theorem lex_getRt {pl : Sem Bool} {st : Sta} {tok : List Nat} {pos : Nat} {pbk : List Nat} {Q : Value × List Value → Shared → Prop} (o : c.Ok) (P0 : LexSt c l st tok pos pbk s) (k : Q (.ref 695, [.ref c.x]) s) :
    wpAny (model Challenge.rw_mq0398_01.row.prog c.w) A (getMethod (.ref c.x) (Str.ofString "read_token") pl) Q E s := by
  obtain ⟨h, tk, m, es, ne, ei, ni, kk, ts, rfl, F, hm, N, D, I, T⟩ := P0
  refine' method_inst (K := Mine.hd.heap_39 c.w.params) (n := ne) F o.X (InstAt.of_news N (.head _) (.tail _ (.head _))) ?k1 ?k2 ?k3 D.rt k
  case k1 => k_is
  case k2 => k_is
  case k3 => k_is
theorem lex_callRt {p5 : Pos} {env2 : Env} {Q : Value → Shared → Prop} {st : Sta} {tok : List Nat} {pos : Nat} {pbk : List Nat} (o : c.Ok) (P0 : LexSt c l st tok pos pbk s)
    (h : wpAny (model Challenge.rw_mq0398_01.row.prog c.w) A (call (.ref 695) [.ref c.x]) Q E s) :
    wpAny (model Challenge.rw_mq0398_01.row.prog c.w) A (callWith p5 (.ref 695) [.ref c.x] (backTo p5 (starEach [] env2)) []) Q E s :=
  callWith_K0 (K := Mine.hd.heap_39 c.w.params) (P0.inK o) (by k_is) h

theorem gt_spec {R : Result → Shared → Prop} {st : Sta} {pos : Nat} {pbk : List Nat} {es ei : List DictEntry} {ne ni : Nat} {kk : Int} {ts : List Value} {res : TokRes}
    (o : c.Ok) (hord : c.dio < c.io) (a : Amb c.w mg mb mean 6 A A₀ base c.g env outer c.L) (F : Fr c.g c.L s.heap m) (N : News c.g c.L s.heap (c.led es ne ei ni kk ts)) (D : LexD c es st []) (I : IoD c ei pos) (T : All2 (fun v n => ∃ t, v = .str (S [n]) t) ts pbk)
    (hst : st = .no ∨ st = .sp) (hpb : pbk.length ≤ 1) (hpx : c.lx = false → pbk = []) (hres : runTok c.lx st [] false .sp (pbk ++ c.tx.drop pos) = res) (hnb : res ≠ .bad)
    (k : ∀ v h' tk' es' ne' ei' ni' kk' ts' st' tok' q pos' pbk', res = .done st' tok' q (pbk' ++ c.tx.drop pos') → (emit tok' q = true → ∃ t, v = .str (S tok') t) → (emit tok' q = false → v = .none) → pbk'.length ≤ 1 → (c.lx = false → pbk' = []) →
      Fr c.g c.L h' m → News c.g c.L h' (c.led es' ne' ei' ni' kk' ts') → LexD c es' st' [] → IoD c ei' pos' → All2 (fun v n => ∃ t, v = .str (S [n]) t) ts' pbk' → R (.ok (.ret v)) { s with heap := h', toks := tk' })
    (ke : ∀ esc e t tt g₂ h' tk' es' ne' ei' ni' kk' ts', res = .fail esc → Fr c.g c.L g₂ m → g₂.UpToSlots h' → RaisedS base g₂ (env :: outer) e (.type "ValueError") t [.str (faultOf esc) tt] (c.led es' ne' ei' ni' kk' ts') h' →
      R (.error (.ref e)) { s with heap := h', toks := tk' }) :
    codeAny (model Challenge.rw_mq0398_01.row.prog c.w) A (.call (.ref 688) ⟨[.ref c.x], []⟩) R s := by
  refine' enter a F N ?ho ?hcd ?hb ?hl ?_ ?c1 ?c2 ?c3 ?c4
  case ho => walk_at "ho"
  case hcd => k_is
  case hb => exact BindsTo.of_eq rfl
  case hl => exact locs rfl
  case c1 => exact rfl
  case c2 => exact rfl
  case c3 => exact rfl
  case c4 => decide
  intro g L' h' FG' Am F' N'
  dsimp only
  have P0 : LexSt (c.at g L' s) [(Str.ofString "self", .ref (c.at g L' s).x)] st [] pos pbk { s with heap := h', toks := s.toks + 1 } :=
    ⟨h', _, _, es, ne, ei, ni, kk, ts, rfl, F', fun p hp => by rw [List.mem_singleton.mp hp]; rfl, N', D.at, I.at, T⟩
  have od : (c.at g L' s).Ok := o.at Am.X
  have hdo : (c.at g L' s).dio < (c.at g L' s).io := hord
  have hL : L' = (c.at g L' s).L := rfl
  have hg : g = (c.at g L' s).g := rfl
  have hdw : c.w = (c.at g L' s).w := rfl
  have hdl : c.lx = (c.at g L' s).lx := rfl
  have hdt : c.tx = (c.at g L' s).tx := rfl
  generalize hd : c.at g L' s = d at P0 od hdo hL hg hdw hdl hdt
  rw [hdl, hdt] at hres
  rw [hdl] at hpx
  rw [hdw] at Am ⊢
  have K : ∀ v s1 st' tok' q pos' pbk' l, res = .done st' tok' q (pbk' ++ d.tx.drop pos') → (emit tok' q = true → ∃ t, v = .str (S tok') t) → (emit tok' q = false → v = .none) → pbk'.length ≤ 1 → (d.lx = false → pbk' = []) →
      LexSt d l st' [] pos' pbk' s1 → LeaveK c.g c.L m d.g R v s1 := by
    intro v s1 st' tok' q pos' pbk' l h1 h2 h3 h4 h5 ⟨hh, tk, mm, es', ne', ei', ni', kk', ts', e1, F1, _, N1, D1, I1, T1⟩
    subst hd
    rw [e1]
    exact leaveK_ F1 N1 (fun F2 N2 => k v _ tk es' ne' ei' ni' kk' ts' st' tok' q pos' pbk' h1 h2 h3 h4 h5 F2 N2 D1.un I1.un T1)
  have KE : ∀ (esc : Bool) e t tt h4 tk es ne ei ni kk ts, res = .fail esc → d.g.UpToSlots h4 → RaisedS base d.g (env :: outer) e (.type "ValueError") t [.str (faultOf esc) tt] (d.led es ne ei ni kk ts) h4 → R (.error (.ref e)) { d.s0 with heap := h4, toks := tk } := by
    subst hd
    intro esc e t tt h4 tk es ne ei ni kk ts h1 h2 h3
    exact ke esc e t tt _ h4 tk es ne ei ni kk ts h1 FG' h2 h3
  subst hg hL
  clear hd F' N' FG' k ke F N D I T
  refine (?H : ∀ s1, LexSt d [(Str.ofString "self", .ref d.x)] st [] pos pbk s1 → wpAny _ _ _ _ _ s1) _ P0
  clear P0
  intro s1 P1
  -- if self.pushback
  refine wpAny_execs_cons (wpAny_If (wpAny_isTrue_value (at_pushback od P1 (.head _) fun s2 P2 => tr_pb od P2 fun s3 P3 => ?_)))
  refine ite_neg (by decide) (wpAny_execs_nil ?_)
  dsimp only
  -- raw = self.read_token()
  refine wpAny_execs_cons (wpAny_Assign_Name (MethodCall_ (lex_self P3 (.head _) (lex_getRt od P3 (lex_callRt od P3 ?_)))))
  refine lex_rt od hdo (Am.less (by decide)) P3 hst hpb hpx hres hnb ?_ ?_
  · intro v s4 st4 tok4 q4 pos4 pbk4 hr4 hv1 hv2 hl4 hx4 P4
    refine st_to (l' := [(Str.ofString "self", .ref d.x), (Str.ofString "raw", v)]) P4 (fun p hp => ?_) fun s5 P5 => ?_
    · simp only [List.mem_cons, List.not_mem_nil, or_false] at hp
      rcases hp with rfl | rfl
      · exact .inr ⟨.head _, (by decide +kernel : Str.ofString "self" ≠ Str.ofString "raw")⟩
      · exact .inl rfl
    dsimp only
    clear P4
    -- if self.source is not None
    refine wpAny_execs_cons (wpAny_If (wpAny_isTrue_Compare1 (at_source od P5 (.head _) fun s6 P6 => wpAny_Constant_none (isnot_none_none (wpAny_truthy_bool ?_)))))
    refine ite_neg (by decide) (wpAny_execs_nil ?_)
    dsimp only
    clear P5
    have Kv := K v
    refine wpAny_execs_cons (while_inv (fun _ s' => LexSt d [(Str.ofString "self", .ref d.x), (Str.ofString "raw", v)] st4 [] pos4 pbk4 s') (by passes_own) ?_ 0 P6)
    intro n s7 P7
    refine wpAny_isTrue_Compare1 (lex_self P7 (.tail _ (.head _)) (at_eof od P7 (.head _) fun s8 P8 => ?_))
    cases he : emit tok4 q4 with
    | true =>
      obtain ⟨t, rfl⟩ := hv1 he
      refine PySem.EqNone.eq_str_none (wpAny_truthy_bool ?_)
      refine ite_neg (by decide) ?_
      dsimp only
      refine wpAny_execs_cons (wpAny_If (wpAny_isTrue_Compare1 (at_debug od P8 (.head _) fun t8 s9 P9 => c_int P9 fun t9 s10 P10 => PyProof.Rows.ge_int (wpAny_truthy_bool ?_))))
      refine ite_neg (by decide) (wpAny_execs_nil ?_)
      dsimp only
      refine wpAny_execs_cons (wpAny_Return_some (lex_self P10 (.tail _ (.head _)) ?_))
      dsimp only
      exact Kv _ st4 tok4 q4 pos4 pbk4 _ hr4 hv1 (fun h => by (rw [he] at h; cases h)) hl4 hx4 P10
    | false =>
      obtain rfl := hv2 he
      refine PySem.EqNone.eq_none_none (wpAny_truthy_bool ?_)
      refine ite_pos rfl ?_
      refine wpAny_execs_cons (wpAny_If (wpAny_isTrue_Not (wpAny_isTrue_value (at_filestack od P8 (.head _) fun s9 P9 => tr_fs od P9 fun s10 P10 => ?_))))
      refine ite_pos rfl ?_
      refine wpAny_execs_cons (wpAny_Return_some (at_eof od P10 (.head _) fun s11 P11 => ?_))
      dsimp only
      exact Kv _ st4 tok4 q4 pos4 pbk4 _ hr4 (fun h => by (rw [he] at h; cases h)) hv2 hl4 hx4 P11
  · intro esc e t tt g₂ m' h5 tk' es' ne' ei' ni' kk' ts' h1 h2 h3 h4
    dsimp only
    exact leave_onS Am.B h2 h4 h3 fun h6 R6 _ U6 => KE esc e t tt _ _ _ _ _ _ _ _ h1 U6 R6
end
end Mine
/-! NX -/
namespace Mine
open PySem PySem.W PySem.Calls PyProof.Rows PySem.Spec
theorem fill_nx : ∀ (w : World) (h : Heap), (Mine.hd.heap_39 w.params).In h → PySem.Challenge.rw_mq0398_01.row.prog = PySem.Challenge.rw_mq0398_01.row.prog := by
  k_fill
  intros; rfl
section
variable {c : LC} {A A₀ : Around} {mg mb : Str → Option Value} {mean : ExcName → Option Value} {base h₀ : Heap} {env : Env} {outer : List Env} {L : Addr} {s : Shared} {m : Str → Option Value} {E : Value → Shared → Prop} {l : List (Str × Value)} {cn : Str} {cs : Scope} {f : Addr} {ccd : Value}

/-- get_token, where the lexer's state is known -/
theorem lex_gt {Q : Value → Shared → Prop} {st : Sta} {pos : Nat} {pbk : List Nat} {res : TokRes} (o : c.Ok) (hord : c.dio < c.io) (am : Amb c.w mg mb mean 6 A A₀ base c.g env outer c.L) (P0 : LexSt c l st [] pos pbk s)
    (hst : st = .no ∨ st = .sp) (hpb : pbk.length ≤ 1) (hpx : c.lx = false → pbk = []) (hres : runTok c.lx st [] false .sp (pbk ++ c.tx.drop pos) = res) (hnb : res ≠ .bad)
    (k : ∀ v s' st' tok' q pos' pbk', res = .done st' tok' q (pbk' ++ c.tx.drop pos') → (emit tok' q = true → ∃ t, v = .str (S tok') t) → (emit tok' q = false → v = .none) → pbk'.length ≤ 1 → (c.lx = false → pbk' = []) →
      LexSt c l st' [] pos' pbk' s' → Q v s')
    (ke : ∀ esc e t tt g₂ m' h' tk' es' ne' ei' ni' kk' ts', res = .fail esc → Fr c.g c.L g₂ m' → g₂.UpToSlots h' → RaisedS base g₂ (env :: outer) e (.type "ValueError") t [.str (faultOf esc) tt] (c.led es' ne' ei' ni' kk' ts') h' →
      E (.ref e) { c.s0 with heap := h', toks := tk' }) :
    wpAny (model Challenge.rw_mq0398_01.row.prog c.w) A (call (.ref 688) [.ref c.x]) Q E s := by
  obtain ⟨h, tk, m, es, ne, ei, ni, kk, ts, rfl, F, hm, N, D, I, T⟩ := P0
  refine by_code (gt_spec o hord am F N D I T hst hpb hpx hres hnb ?_ ?_)
  · intro v h' tk' es' ne' ei' ni' kk' ts' st' tok' q pos' pbk' h1 h2 h3 h4 h5 F' N' D' I' T'
    exact k v _ st' tok' q pos' pbk' h1 h2 h3 h4 h5 ⟨h', tk', m, es', ne', ei', ni', kk', ts', rfl, F', hm, N', D', I', T'⟩
  · intro esc e t tt g₂ h' tk' es' ne' ei' ni' kk' ts' h1 h2 h3 h4
    exact ke esc e t tt g₂ m h' tk' es' ne' ei' ni' kk' ts' h1 h2 h3 h4
theorem lex_getGt {pl : Sem Bool} {st : Sta} {tok : List Nat} {pos : Nat} {pbk : List Nat} {Q : Value × List Value → Shared → Prop} (o : c.Ok) (P0 : LexSt c l st tok pos pbk s) (k : Q (.ref 688, [.ref c.x]) s) :
    wpAny (model Challenge.rw_mq0398_01.row.prog c.w) A (getMethod (.ref c.x) (Str.ofString "get_token") pl) Q E s := by
  obtain ⟨h, tk, m, es, ne, ei, ni, kk, ts, rfl, F, hm, N, D, I, T⟩ := P0
  refine' method_inst (K := Mine.hd.heap_39 c.w.params) (n := ne) F o.X (InstAt.of_news N (.head _) (.tail _ (.head _))) ?k1 ?k2 ?k3 D.gt k
  case k1 => k_is
  case k2 => k_is
  case k3 => k_is
theorem lex_callGt {p5 : Pos} {env2 : Env} {Q : Value → Shared → Prop} {st : Sta} {tok : List Nat} {pos : Nat} {pbk : List Nat} (o : c.Ok) (P0 : LexSt c l st tok pos pbk s)
    (h : wpAny (model Challenge.rw_mq0398_01.row.prog c.w) A (call (.ref 688) [.ref c.x]) Q E s) :
    wpAny (model Challenge.rw_mq0398_01.row.prog c.w) A (callWith p5 (.ref 688) [.ref c.x] (backTo p5 (starEach [] env2)) []) Q E s :=
  callWith_K0 (K := Mine.hd.heap_39 c.w.params) (P0.inK o) (by k_is) h

theorem nx_spec {R : Result → Shared → Prop} {st : Sta} {pos : Nat} {pbk : List Nat} {es ei : List DictEntry} {ne ni : Nat} {kk : Int} {ts : List Value} {res : TokRes}
    (o : c.Ok) (hord : c.dio < c.io) (a : Amb c.w mg mb mean 7 A A₀ base c.g env outer c.L) (F : Fr c.g c.L s.heap m) (N : News c.g c.L s.heap (c.led es ne ei ni kk ts)) (D : LexD c es st []) (I : IoD c ei pos) (T : All2 (fun v n => ∃ t, v = .str (S [n]) t) ts pbk)
    (hst : st = .no ∨ st = .sp) (hpb : pbk.length ≤ 1) (hpx : c.lx = false → pbk = []) (hres : runTok c.lx st [] false .sp (pbk ++ c.tx.drop pos) = res) (hnb : res ≠ .bad)
    (k : ∀ t h' tk' es' ne' ei' ni' kk' ts' st' tok' q pos' pbk', res = .done st' tok' q (pbk' ++ c.tx.drop pos') → emit tok' q = true → pbk'.length ≤ 1 → (c.lx = false → pbk' = []) →
      Fr c.g c.L h' m → News c.g c.L h' (c.led es' ne' ei' ni' kk' ts') → LexD c es' st' [] → IoD c ei' pos' → All2 (fun v n => ∃ t, v = .str (S [n]) t) ts' pbk' → R (.ok (.ret (.str (S tok') t))) { s with heap := h', toks := tk' })
    (k0 : ∀ e t g₂ h' tk' es' ne' ei' ni' kk' ts' st' tok' q inp', res = .done st' tok' q inp' → emit tok' q = false → Fr c.g c.L g₂ m → g₂.UpToSlots h' → RaisedS base g₂ (env :: outer) e (.type "StopIteration") t [] (c.led es' ne' ei' ni' kk' ts') h' →
      R (.error (.ref e)) { s with heap := h', toks := tk' })
    (ke : ∀ esc e t tt g₂ h' tk' es' ne' ei' ni' kk' ts', res = .fail esc → Fr c.g c.L g₂ m → g₂.UpToSlots h' → RaisedS base g₂ (env :: outer) e (.type "ValueError") t [.str (faultOf esc) tt] (c.led es' ne' ei' ni' kk' ts') h' →
      R (.error (.ref e)) { s with heap := h', toks := tk' }) :
    codeAny (model Challenge.rw_mq0398_01.row.prog c.w) A (.call (.ref 724) ⟨[.ref c.x], []⟩) R s := by
  refine' enter a F N ?ho ?hcd ?hb ?hl ?_ ?c1 ?c2 ?c3 ?c4
  case ho => walk_at "ho"
  case hcd => k_is
  case hb => exact BindsTo.of_eq rfl
  case hl => exact locs rfl
  case c1 => exact rfl
  case c2 => exact rfl
  case c3 => exact rfl
  case c4 => decide
  intro g L' h' FG' Am F' N'
  dsimp only
  have P0 : LexSt (c.at g L' s) [(Str.ofString "self", .ref (c.at g L' s).x)] st [] pos pbk { s with heap := h', toks := s.toks + 1 } :=
    ⟨h', _, _, es, ne, ei, ni, kk, ts, rfl, F', fun p hp => by rw [List.mem_singleton.mp hp]; rfl, N', D.at, I.at, T⟩
  have od : (c.at g L' s).Ok := o.at Am.X
  have hdo : (c.at g L' s).dio < (c.at g L' s).io := hord
  have hL : L' = (c.at g L' s).L := rfl
  have hg : g = (c.at g L' s).g := rfl
  have hdw : c.w = (c.at g L' s).w := rfl
  have hdl : c.lx = (c.at g L' s).lx := rfl
  have hdt : c.tx = (c.at g L' s).tx := rfl
  generalize hd : c.at g L' s = d at P0 od hdo hL hg hdw hdl hdt
  rw [hdl, hdt] at hres
  rw [hdl] at hpx
  rw [hdw] at Am ⊢
  have K : ∀ t s1 st' tok' q pos' pbk' l, res = .done st' tok' q (pbk' ++ d.tx.drop pos') → emit tok' q = true → pbk'.length ≤ 1 → (d.lx = false → pbk' = []) →
      LexSt d l st' [] pos' pbk' s1 → LeaveK c.g c.L m d.g R (.str (S tok') t) s1 := by
    intro t s1 st' tok' q pos' pbk' l h1 h2 h4 h5 ⟨hh, tk, mm, es', ne', ei', ni', kk', ts', e1, F1, _, N1, D1, I1, T1⟩
    subst hd
    rw [e1]
    exact leaveK_ F1 N1 (fun F2 N2 => k t _ tk es' ne' ei' ni' kk' ts' st' tok' q pos' pbk' h1 h2 h4 h5 F2 N2 D1.un I1.un T1)
  have K0 : ∀ e t h4 tk es ne ei ni kk ts st' tok' q inp', res = .done st' tok' q inp' → emit tok' q = false → d.g.UpToSlots h4 → RaisedS base d.g (env :: outer) e (.type "StopIteration") t [] (d.led es ne ei ni kk ts) h4 → R (.error (.ref e)) { d.s0 with heap := h4, toks := tk } := by
    subst hd
    intro e t h4 tk es ne ei ni kk ts st' tok' q inp' h1 h2 h3 h4'
    exact k0 e t _ h4 tk es ne ei ni kk ts st' tok' q inp' h1 h2 FG' h3 h4'
  have KE : ∀ (esc : Bool) e t tt h4 tk es ne ei ni kk ts, res = .fail esc → d.g.UpToSlots h4 → RaisedS base d.g (env :: outer) e (.type "ValueError") t [.str (faultOf esc) tt] (d.led es ne ei ni kk ts) h4 → R (.error (.ref e)) { d.s0 with heap := h4, toks := tk } := by
    subst hd
    intro esc e t tt h4 tk es ne ei ni kk ts h1 h2 h3
    exact ke esc e t tt _ h4 tk es ne ei ni kk ts h1 FG' h2 h3
  subst hg hL
  clear hd F' N' FG' k k0 ke F N D I T
  refine (?H : ∀ s1, LexSt d [(Str.ofString "self", .ref d.x)] st [] pos pbk s1 → wpAny _ _ _ _ _ s1) _ P0
  clear P0
  intro s1 P1
  refine wpAny_execs_cons (wpAny_Assign_Name (MethodCall_ (lex_self P1 (.head _) (lex_getGt od P1 (lex_callGt od P1 ?_)))))
  refine lex_gt od hdo (Am.less (by decide)) P1 hst hpb hpx hres hnb ?_ ?_
  · intro v s4 st4 tok4 q4 pos4 pbk4 hr4 hv1 hv2 hl4 hx4 P4
    refine st_to (l' := [(Str.ofString "self", .ref d.x), (Str.ofString "token", v)]) P4 (fun p hp => ?_) fun s5 P5 => ?_
    · simp only [List.mem_cons, List.not_mem_nil, or_false] at hp
      rcases hp with rfl | rfl
      · exact .inr ⟨.head _, (by decide +kernel : Str.ofString "self" ≠ Str.ofString "token")⟩
      · exact .inl rfl
    dsimp only
    clear P4
    refine wpAny_execs_cons (wpAny_If (wpAny_isTrue_Compare1 (lex_self P5 (.tail _ (.head _)) (at_eof od P5 (.head _) fun s8 P8 => ?_))))
    cases he : emit tok4 q4 with
    | true =>
      obtain ⟨t, rfl⟩ := hv1 he
      refine PySem.EqNone.eq_str_none (wpAny_truthy_bool ?_)
      refine ite_neg (by decide) (wpAny_execs_nil ?_)
      dsimp only
      refine wpAny_execs_cons (wpAny_Return_some (lex_self P8 (.tail _ (.head _)) ?_))
      dsimp only
      exact K _ _ st4 tok4 q4 pos4 pbk4 _ hr4 he hl4 hx4 P8
    | false =>
      obtain rfl := hv2 he
      refine PySem.EqNone.eq_none_none (wpAny_truthy_bool ?_)
      refine ite_pos rfl ?_
      obtain ⟨hX, tX, mX, esX, neX, eiX, niX, kX, tsX, rfl, FX, _, NX, DX, IX, TX⟩ := P8
      obtain ⟨BX, XX, TTX, hAX, hfX, hkX, hdX, huX, hhX⟩ := Am
      refine wpAny_execs_cons (owsi_raiseC hhX ?_ ?_)
      · exact tp_builtin (v := .type "StopIteration") (by assumption) (by assumption) (by boot_by_name) ⟨rfl, rfl⟩
      · intro h3 e3 hM
        dsimp only
        exact leave_raiseS BX (Heap.MadeExc.of hM) FX NX (fun h4 t4 R4 _ U4 => K0 _ _ _ _ _ _ _ _ _ _ _ _ _ _ hr4 he U4 R4)
  · intro esc e t tt g₂ m' h5 tk' es' ne' ei' ni' kk' ts' h1 h2 h3 h4
    dsimp only
    exact leave_onS Am.B h2 h4 h3 fun h6 R6 _ U6 => KE esc e t tt _ _ _ _ _ _ _ _ h1 U6 R6
end
end Mine
/-! LI -/
namespace Mine
open PySem PySem.W PySem.Calls PyProof.Rows PySem.Spec
theorem fill_li : ∀ (w : World) (h : Heap), (Mine.hd.heap_39 w.params).In h → PySem.Challenge.rw_mq0398_01.row.prog = PySem.Challenge.rw_mq0398_01.row.prog := by
  k_fill
  intros; rfl
section
variable {c : LC} {A A₀ : Around} {mg mb : Str → Option Value} {mean : ExcName → Option Value} {base h₀ : Heap} {env : Env} {outer : List Env} {L : Addr} {s : Shared} {m : Str → Option Value} {l : List (Str × Value)} {cn : Str} {cs : Scope} {f : Addr} {ccd : Value}

theorem iter_spec {w : World} {n : Nat} {news : List (Addr × Obj)} {R : Result → Shared → Prop} {x : Addr} (a : Amb w mg mb mean (n + 1) A A₀ base h₀ env outer L) (F : Fr h₀ L s.heap m) (N : News h₀ L s.heap news)
    (k : ∀ h' tk', Fr h₀ L h' m → News h₀ L h' news → R (.ok (.ret (.ref x))) { s with heap := h', toks := tk' }) :
    codeAny (model Challenge.rw_mq0398_01.row.prog w) A (.call (.ref 717) ⟨[.ref x], []⟩) R s := by
  refine' enter a F N ?ho ?hcd ?hb ?hl ?_ ?c1 ?c2 ?c3 ?c4
  case ho => walk_at "ho"
  case hcd => k_is
  case hb => exact BindsTo.of_eq rfl
  case hl => exact locs rfl
  case c1 => exact rfl
  case c2 => exact rfl
  case c3 => exact rfl
  case c4 => decide
  intro g L' h' FG' Am F' N'
  dsimp only
  refine wpAny_execs_cons (wpAny_Return_some (ld F' rfl ?_))
  dsimp only
  exact leaveK_ F' N' fun F2 N2 => k _ _ F2 N2

theorem stop_no {M : Model} {E : Value → Shared → Prop} {Q : Option Value → Shared → Prop} {l : List Env} {e t : Addr} {vs : List Value} {news : List (Addr × Obj)} (R : RaisedK base l e (.type "ValueError") t vs news s.heap) (k : E (.ref e) s) : OwitStop M A Q E (.ref e) s := by
  obtain ⟨⟨B, hB, hl, hfl, _⟩, _⟩ := R
  obtain ⟨ob, hob, hobc⟩ := (flyingW_base hB hfl).there
  have hT : s.TypeIs (.ref e) "ValueError" := (show ∃ o, s.heap.get? e = some o ∧ o.cls = .type "ValueError" from ⟨ob, hob, hobc⟩)
  have hsub : isSubtype (.type "ValueError") (.type "StopIteration") = pure false := by rw [isSubtype_type]; kernel_rfl
  unfold OwitStop
  refine wpAny_isInstance hT hsub ?_
  show (if false = true then Q none s else E (.ref e) s)
  rw [if_neg (by decide)]
  exact k

noncomputable def LC.withS (c : LC) (S : Addr) (acc : List Value) (n : Nat) : LC := { c with frz := (S, W.listOf acc.toArray n) :: c.frz }
theorem LexD.wS {S : Addr} {acc : List Value} {n : Nat} {es : List DictEntry} {st : Sta} {tok : List Nat} (D : LexD c es st tok) : LexD (c.withS S acc n) es st tok :=
  ⟨D.1, D.2, D.3, D.4, D.5, D.6, D.7, D.8, D.9, D.10, D.11, D.12, D.13, D.14, D.15, D.16, D.17, D.18, D.19, D.20, D.21, D.22⟩
theorem LexD.unS {S : Addr} {acc : List Value} {n : Nat} {es : List DictEntry} {st : Sta} {tok : List Nat} (D : LexD (c.withS S acc n) es st tok) : LexD c es st tok :=
  ⟨D.1, D.2, D.3, D.4, D.5, D.6, D.7, D.8, D.9, D.10, D.11, D.12, D.13, D.14, D.15, D.16, D.17, D.18, D.19, D.20, D.21, D.22⟩
theorem IoD.wS {S : Addr} {acc : List Value} {n : Nat} {es : List DictEntry} {pos : Nat} (D : IoD c es pos) : IoD (c.withS S acc n) es pos := ⟨D.1, D.2, D.3, D.4, D.5, D.6, D.7⟩
theorem IoD.unS {S : Addr} {acc : List Value} {n : Nat} {es : List DictEntry} {pos : Nat} (D : IoD (c.withS S acc n) es pos) : IoD c es pos := ⟨D.1, D.2, D.3, D.4, D.5, D.6, D.7⟩
structure LC.NewS (c : LC) (S : Addr) : Prop where
  x : c.x ≠ S
  dx : c.dx ≠ S
  io : c.io ≠ S
  dio : c.dio ≠ S
  pc : c.pc ≠ S
  frz : ∀ p ∈ c.frz, p.1 ≠ S
theorem LC.Ok.wS {S : Addr} {acc : List Value} {n : Nat} (o : c.Ok) (hS : c.NewS S) : (c.withS S acc n).Ok :=
  { X := o.X, d1 := o.d1, d2 := o.d2, d3 := o.d3, d4 := o.d4, d5 := o.d5, d6 := o.d6, d7 := o.d7, d8 := o.d8, d9 := o.d9
    f1 := fun p hp => by
      rcases List.mem_cons.mp hp with rfl | hp
      · exact hS.dx.symm
      · exact o.f1 p hp
    f2 := fun p hp => by
      rcases List.mem_cons.mp hp with rfl | hp
      · exact hS.dio.symm
      · exact o.f2 p hp
    f3 := fun p hp => by
      rcases List.mem_cons.mp hp with rfl | hp
      · exact hS.pc.symm
      · exact o.f3 p hp
    pbIn := let ⟨k, h⟩ := o.pbIn; ⟨k, .tail _ h⟩
    fsIn := let ⟨k, h⟩ := o.fsIn; ⟨k, .tail _ h⟩ }
theorem upd_head {a : Addr} {o o' : Obj} {l : List (Addr × Obj)} (h : ∀ p ∈ l, p.1 ≠ a) : Upd a o o' ((a, o) :: l) ((a, o') :: l) := .head h
theorem LC.updS {S : Addr} (hS : c.NewS S) {acc acc' : List Value} {n n' : Nat} {es ei : List DictEntry} {ne ni : Nat} {k : Int} {ts : List Value} :
    Upd S (W.listOf acc.toArray n) (W.listOf acc'.toArray n') ((c.withS S acc n).led es ne ei ni k ts) ((c.withS S acc' n').led es ne ei ni k ts) := by
  refine .tail hS.x (.tail hS.dx (.tail hS.io (.tail hS.dio ?_)))
  show Upd _ _ _ ((if c.lx = true then [(c.pc, dqO k ts)] else []) ++ (S, W.listOf acc.toArray n) :: c.frz) ((if c.lx = true then [(c.pc, dqO k ts)] else []) ++ (S, W.listOf acc'.toArray n') :: c.frz)
  cases c.lx with
  | true => exact .tail hS.pc (.head hS.frz)
  | false => exact .head hS.frz
theorem lx_nbad {lx : Bool} {st : Sta} {tok : List Nat} {q : Bool} {est : Sta} {inp : List Nat} {ts : List (List Nat)} {e : Option Bool} (h : Lx lx st tok q est inp ts e) : runTok lx st tok q est inp ≠ .bad := by
  intro hb
  rcases h.run with ⟨_, _, _, _, _, h, _⟩ | ⟨_, _, _, h, _⟩ | ⟨_, h, _⟩ <;> rw [hb] at h <;> cases h
theorem run_st {lx : Bool} {inp : List Nat} : ∀ {st : Sta} {tok : List Nat} {q : Bool} {est : Sta} {st' : Sta} {tok' : List Nat} {q' : Bool} {inp' : List Nat}, runTok lx st tok q est inp = .done st' tok' q' inp' → st' = .no ∨ st' = .sp := by
  induction inp with
  | nil =>
    intro st tok q est st' tok' q' inp' h
    unfold runTok at h
    cases ht : turn lx st tok q est none with
    | brk _ _ _ => rw [ht] at h; cases h; exact (turn_brk ht).1
    | _ => rw [ht] at h; cases h
  | cons n r ih =>
    intro st tok q est st' tok' q' inp' h
    unfold runTok at h
    cases ht : turn lx st tok q est (some n) with
    | go _ _ _ _ => rw [ht] at h; exact ih h
    | brk _ _ _ => rw [ht] at h; cases h; exact (turn_brk ht).1
    | back _ _ _ => rw [ht] at h; cases h; exact .inr (turn_back ht).1
    | _ => rw [ht] at h; cases h

theorem stop_S {M : Model} {E : Value → Shared → Prop} {Q : Option Value → Shared → Prop} {g G : Heap} {e t a : Addr} {name : Str} {scope : Scope} {cd : Value} {vs : List Value} {news : List (Addr × Obj)}
    (R : RaisedS base G (envOf name scope L a cd :: outer) e (.type "StopIteration") t vs news s.heap) (hsm : G.UpToSlots s.heap) (F : Fr g L G m) (K : Below A₀ base outer g)
    (k : ∀ g', KtsTurn (outer.filterMap (·.frame)) g g' → Fr g' L s.heap m → Below A₀ base outer g' → News g' L s.heap news → Q none s) : OwitStop M A Q E (.ref e) s := by
  obtain ⟨⟨B, hB, hBG, hl, hfl, hnew⟩, htup⟩ := R
  have hL : B.get? L = none := by
    obtain ⟨_, ⟨L', _, hf, hn', _⟩, _⟩ := hfl.2.2.1
    obtain rfl : L = L' := Option.some.inj hf
    exact hn'
  obtain ⟨ob, hob, hobc⟩ := hfl.there
  have hT : s.TypeIs (.ref e) "StopIteration" := (show ∃ o, s.heap.get? e = some o ∧ o.cls = .type "StopIteration" from ⟨ob, hob, hobc⟩)
  have hsub : isSubtype (.type "StopIteration") (.type "StopIteration") = pure true := by rw [isSubtype_type]; kernel_rfl
  unfold OwitStop
  refine wpAny_isInstance hT hsub ?_
  show (if true = true then Q none s else E (.ref e) s)
  rw [if_pos rfl]
  obtain ⟨g', T', F', K'⟩ := kts_ground K F hBG hfl.1 hsm
  exact k g' T' F' K' fun q hq => ⟨hfl.1 _ _ (hl q hq).1, (fun z => by have := (hl q hq).1; rw [z, hL] at this; cases this), T'.none_ _ (kts_none F.keep (hl q hq).2.1)⟩

/-- one step of the lexer as an iterator -/
theorem next_step {name : Str} {scope : Scope} {a : Addr} {cd : Value} {E : Value → Shared → Prop} {Q : Option Value → Shared → Prop} {ts : List (List Nat)} {e : Option Bool} {st : Sta} {pos : Nat} {pbk : List Nat}
    (o : c.Ok) (hord : c.dio < c.io) (am : Amb c.w mg mb mean 7 A A₀ base c.g (envOf name scope c.L a cd) outer c.L) (hL : Lx c.lx st [] false .sp (pbk ++ c.tx.drop pos) ts e) (hst : st = .no ∨ st = .sp) (hpb : pbk.length ≤ 1) (hpx : c.lx = false → pbk = [])
    (P0 : LexSt c l st [] pos pbk s)
    (k1 : ∀ tok t ts' st' pos' pbk' s', ts = tok :: ts' → Lx c.lx st' [] false .sp (pbk' ++ c.tx.drop pos') ts' e → (st' = .no ∨ st' = .sp) → pbk'.length ≤ 1 → (c.lx = false → pbk' = []) → LexSt c l st' [] pos' pbk' s' → Q (some (.str (Mine.S tok) t)) s')
    (k0 : ts = [] → e = none → ∀ g' h' tk' m', KtsTurn (outer.filterMap (·.frame)) c.g g' → Below A₀ base outer g' → Fr g' c.L h' m' → (∀ p ∈ l, m' p.1 = some p.2) → News g' c.L h' c.frz → Q none { c.s0 with heap := h', toks := tk' })
    (ke : ts = [] → ∀ esc, e = some esc → ∀ x t tt g₂ m' h' tk' news', Fr c.g c.L g₂ m' → (∀ p ∈ l, m' p.1 = some p.2) → g₂.UpToSlots h' → RaisedS base g₂ (envOf name scope c.L a cd :: outer) x (.type "ValueError") t [.str (faultOf esc) tt] news' h' → (∀ p ∈ c.frz, p ∈ news') → E (.ref x) { c.s0 with heap := h', toks := tk' }) :
    wpAny (model Challenge.rw_mq0398_01.row.prog c.w) A (pyNext (.ref c.x)) Q E s := by
  obtain ⟨h, tk, m, es, ne, ei, ni, kk, vts, rfl, F, hm, N, D, I, T⟩ := P0
  refine owit_next (K := Mine.hd.heap_39 c.w.params) (f := 724) F o.X (InstAt.of_news N (.head _) (.tail _ (.head _))) (by k_is) (by k_is) ?_
  refine by_code (nx_spec o hord am F N D I T hst hpb hpx rfl (lx_nbad hL) ?_ ?_ ?_)
  · intro t h' tk' es' ne' ei' ni' kk' ts' st' tok' q pos' pbk' hd he hl1 hx1 F' N' D' I' T'
    rcases hL.run with ⟨_, _, _, _, ts1, h2, h3, rfl, h5⟩ | ⟨_, _, _, h2, h3, _⟩ | ⟨_, h2, _⟩
    · rw [h2] at hd
      injection hd with q1 q2 q3 q4
      subst q1 q2 q3 q4
      exact k1 _ _ _ _ _ _ _ rfl h5 (run_st h2) hl1 hx1 ⟨h', tk', m, es', ne', ei', ni', kk', ts', rfl, F', hm, N', D', I', T'⟩
    · rw [h2] at hd
      injection hd with q1 q2 q3 q4
      subst q1 q2 q3
      rw [h3] at he; cases he
    · rw [h2] at hd; cases hd
  · intro x t g₂ h' tk' es' ne' ei' ni' kk' ts' st' tok' q inp' hd he F2 U2 R2
    rcases hL.run with ⟨_, _, _, _, _, h2, h3, _⟩ | ⟨_, _, _, h2, h3, h4, h5⟩ | ⟨_, h2, _⟩
    · rw [h2] at hd
      injection hd with q1 q2 q3 q4
      subst q1 q2 q3
      rw [h3] at he; cases he
    · refine stop_S R2 U2 F2 am.B fun g' T' F' K' N' => ?_
      exact k0 h4 h5 g' h' tk' m T' K' F' hm (news_sub N' fun p hp => LC.frz_led hp)
    · rw [h2] at hd; cases hd
  · intro esc x t tt g₂ h' tk' es' ne' ei' ni' kk' ts' hf F2 U2 R2
    rcases hL.run with ⟨_, _, _, _, _, h2, _⟩ | ⟨_, _, _, h2, _⟩ | ⟨y, h2, h3, h4⟩
    · rw [h2] at hf; cases hf
    · rw [h2] at hf; cases hf
    · rw [h2] at hf
      injection hf with q1
      subst q1
      exact stop_no R2.toK (ke h3 y h4 x t tt g₂ m h' tk' _ F2 hm U2 R2 fun p hp => LC.frz_led hp)

theorem seq_U {M : Model} {E : Value → Shared → Prop} {D : Addr} {news news' : List (Addr × Obj)} {acc acc' : List Value} {n n' : Nat} {f : Array Value → Array Value} {Q : Unit → Shared → Prop} (F : Fr h₀ L s.heap m) (N : News h₀ L s.heap news)
    (hf : Obj.mapSeq f (W.listOf acc.toArray n) = W.listOf acc'.toArray n') (U : Upd D (W.listOf acc.toArray n) (W.listOf acc'.toArray n') news news') (hz : acc.length ≤ 10000) (hz' : (f acc.toArray).size ≤ 10000) (h : ∀ h', Fr h₀ L h' m → News h₀ L h' news' → Q () { s with heap := h' }) :
    wpAny M A (updateSeq D f) Q E s := by
  obtain ⟨pre, post, rfl, rfl, a, b⟩ := U.split
  have z := N (D, W.listOf acc.toArray n) (List.mem_append.mpr (.inr (.head _)))
  refine wpAny_updateSeq z.1 rfl (h _ (F.change (Heap.SameBut.update ..) z.2.1 z.2.2) (news_set N a b (Heap.SameBut.update ..) ?_)) (by simp [sizeLine]; omega) (by simp only [sizeLine]; omega)
  rw [Heap.get?_update_self _ z.1 (by rw [hf]; rfl), hf]
theorem push_U {M : Model} {E : Value → Shared → Prop} {D : Addr} {news news' : List (Addr × Obj)} {acc : List Value} {n : Nat} {v : Value} {Q : Unit → Shared → Prop} (F : Fr h₀ L s.heap m) (N : News h₀ L s.heap news)
    (U : Upd D (W.listOf acc.toArray n) (W.listOf (acc ++ [v]).toArray (n + 1)) news news') (hz : acc.length ≤ 9000) (h : ∀ h', Fr h₀ L h' m → News h₀ L h' news' → Q () { s with heap := h' }) :
    wpAny M A (updateSeq D (·.push v)) Q E s :=
  seq_U F N (by simp [Obj.mapSeq, W.listOf]) U (by omega) (by simp; omega) h

theorem ext_loop {S : Addr} {name : Str} {scope : Scope} {a : Addr} {cd : Value} (o : c.Ok) (hord : c.dio < c.io) (hS : c.NewS S) (am : Amb c.w mg mb mean 8 A A₀ base c.g (envOf name scope c.L a cd) outer c.L) {R : Result → Shared → Prop} {e : Option Bool} : ∀ (ts : List (List Nat)) (acc : List Value) (n : Nat) (st : Sta) (pos : Nat) (pbk : List Nat) (s : Shared),
    Lx c.lx st [] false .sp (pbk ++ c.tx.drop pos) ts e → (st = .no ∨ st = .sp) → pbk.length ≤ 1 → (c.lx = false → pbk = []) → acc.length + ts.length ≤ 5000 → LexSt (c.withS S acc n) l st [] pos pbk s →
    (e = none → ∀ g' h' tk' m' vs n', KtsTurn (outer.filterMap (·.frame)) c.g g' → Below A₀ base outer g' → All2 (fun v t => ∃ tk, v = .str (Mine.S t) tk) vs ts → Fr g' c.L h' m' → (∀ p ∈ l, m' p.1 = some p.2) → News g' c.L h' ((S, W.listOf (acc ++ vs).toArray n') :: c.frz) → R (.ok (.ret .none)) { c.s0 with heap := h', toks := tk' }) →
    (∀ esc, e = some esc → ∀ x t tt g₂ m' h' tk' news', Fr c.g c.L g₂ m' → (∀ p ∈ l, m' p.1 = some p.2) → g₂.UpToSlots h' → RaisedS base g₂ (envOf name scope c.L a cd :: outer) x (.type "ValueError") t [.str (faultOf esc) tt] news' h' → (∀ p ∈ c.frz, p ∈ news') → R (.error (.ref x)) { c.s0 with heap := h', toks := tk' }) →
    codeAny (model Challenge.rw_mq0398_01.row.prog c.w) A (.builtin "list.extend.loop" ⟨[.ref S, .ref c.x, .none], []⟩) R s := by
  intro ts
  induction ts with
  | nil =>
    intro acc n st pos pbk s hL hst hpb hpx hlen P0 hR hE
    refine codeAny_builtin PySem.F.entry_extend_loop ?_
    rw [Around.under_plainId PySem.F.plain_extend_loop _]
    show wpAny _ A.in1 (pyNext (.ref c.x) >>= _) _ _ _
    refine wpAny_bind (next_step (c := c.withS S acc n) (o.wS hS) hord am.in1 hL hst hpb hpx P0 ?_ ?_ ?_)
    · intro tok t ts' st' pos' pbk' s' h; cases h
    · intro _ he g' h' tk' m' T' K' F' hm' N'
      exact wpAny_pure (hR he g' h' tk' m' [] n T' K' .nil F' hm' (by rw [List.append_nil]; exact N'))
    · intro _ esc he x t tt g₂ m' h' tk' news' F' hm' U' R' hn'
      exact hE esc he x t tt g₂ m' h' tk' news' F' hm' U' R' fun p hp => hn' p (.tail _ hp)
  | cons t0 ts ih =>
    intro acc n st pos pbk s hL hst hpb hpx hlen P0 hR hE
    refine codeAny_builtin PySem.F.entry_extend_loop ?_
    rw [Around.under_plainId PySem.F.plain_extend_loop _]
    show wpAny _ A.in1 (pyNext (.ref c.x) >>= _) _ _ _
    refine wpAny_bind (next_step (c := c.withS S acc n) (o.wS hS) hord am.in1 hL hst hpb hpx P0 ?_ ?_ ?_)
    · intro tok t ts' st' pos' pbk' s' h hL' hst' hpb' hpx' P'
      injection h with h1 h2
      subst h1 h2
      obtain ⟨h, tk, m, es, ne, ei, ni, kk, vts, rfl, F, hm, N, D, I, T⟩ := P'
      show wpAny _ A.in1 (updateSeq S (·.push (.str (Mine.S t0) t)) >>= _) _ _ _
      have hz : acc.length ≤ 9000 := by simp only [List.length_cons] at hlen; omega
      refine wpAny_bind (push_U (n := n) F N (LC.updS hS) hz fun h2 F2 N2 => ?_)
      refine wpAny_pure ⟨plainId_quiet PySem.F.plain_extend_loop _, ?_⟩
      refine ih (acc ++ [.str (Mine.S t0) t]) (n + 1) st' pos' pbk' _ hL' hst' hpb' hpx' (by simp only [List.length_cons, List.length_append, List.length_nil] at hlen ⊢; omega)
        ⟨h2, tk, m, es, ne, ei, ni, kk, vts, rfl, F2, hm, N2, D.unS.wS, I.unS.wS, T⟩ ?_ hE
      intro he g' h' tk' m' vs n' T' K' hv F' hm' N'
      exact hR he g' h' tk' m' (.str (Mine.S t0) t :: vs) n' T' K' (.cons ⟨t, rfl⟩ hv) F' hm' (by rw [List.append_assoc] at N'; exact N')
    · intro h; cases h
    · intro h; cases h

theorem alive_lt {h : Heap} {news : List (Addr × Obj)} (N : News h₀ L h news) : ∀ p ∈ news, p.1 < h.objs.size := fun p hp => Heap.lt_size (N p hp).1
theorem list_lex {name : Str} {scope : Scope} {a : Addr} {cd : Value} {Q : Value → Shared → Prop} {E : Value → Shared → Prop} {ts : List (List Nat)} {e : Option Bool} (o : c.Ok) (hord : c.dio < c.io) (am : Amb c.w mg mb mean 10 A A₀ base c.g (envOf name scope c.L a cd) outer c.L)
    (P0 : LexSt c l .sp [] 0 [] s) (hpc : c.pc < s.heap.objs.size) (hL : Lx c.lx .sp [] false .sp c.tx ts e) (hlen : ts.length ≤ 4000)
    (k : e = none → ∀ S g' h' tk' m' vs n', KtsTurn (outer.filterMap (·.frame)) c.g g' → Below A₀ base outer g' → All2 (fun v t => ∃ tk, v = .str (Mine.S t) tk) vs ts → Fr g' c.L h' m' → (∀ p ∈ l, m' p.1 = some p.2) → News g' c.L h' ((S, W.listOf vs.toArray n') :: c.frz) →
      (∀ p ∈ c.frz, p.1 < S) → Q (.ref S) { c.s0 with heap := h', toks := tk' })
    (ke : ∀ esc, e = some esc → ∀ x t tt g₂ m' h' tk' news', Fr c.g c.L g₂ m' → (∀ p ∈ l, m' p.1 = some p.2) → g₂.UpToSlots h' → RaisedS base g₂ (envOf name scope c.L a cd :: outer) x (.type "ValueError") t [.str (faultOf esc) tt] news' h' → (∀ p ∈ c.frz, p ∈ news') → E (.ref x) { c.s0 with heap := h', toks := tk' }) :
    wpAny (model Challenge.rw_mq0398_01.row.prog c.w) A (call (.type "list") [.ref c.x]) Q E s := by
  refine callType_codes (Q₁ := fun obj s₁ => obj = .ref s.heap.objs.size ∧ s₁ = { s with heap := s.heap.push { cls := .type "list", data := .seq #[] } }) PySem.F.called_list (PySem.F.typeCall_list_1 _) PySem.F.entry_list_init
    (code_list_new _ ⟨rfl, rfl⟩) fun obj s₁ h₁ => ?_
  obtain ⟨rfl, rfl⟩ := h₁
  obtain ⟨h, tk, m, es, ne, ei, ni, kk, vts, rfl, F, hm, N, D, I, T⟩ := P0
  have hlt := alive_lt N
  have hSx : ∀ p ∈ c.led es ne ei ni kk vts, p.1 ≠ h.objs.size := fun p hp => Nat.ne_of_lt (hlt p hp)
  have hS : c.NewS h.objs.size := ⟨hSx _ (.head _), hSx _ (.tail _ (.head _)), hSx _ (.tail _ (.tail _ (.head _))), hSx _ (.tail _ (.tail _ (.tail _ (.head _)))), Nat.ne_of_lt hpc, fun p hp => hSx _ (LC.frz_led hp)⟩
  have hfz : ∀ p ∈ c.frz, p.1 < h.objs.size := fun p hp => hlt _ (LC.frz_led hp)
  have F1 := F.push { cls := .type "list", data := .seq #[] }
  have N1 : News c.g c.L (h.push { cls := .type "list", data := .seq #[] }) ((c.withS h.objs.size [] 0).led es ne ei ni kk vts) := by
    have N1' := news_pushed (D := h.objs.size) (o := W.listOf #[] 0) (s := { c.s0 with heap := h, toks := tk }) F N (h' := h.push { cls := .type "list", data := .seq #[] }) (fun b o e => Heap.get?_push_of_some _ e) (Heap.get?_push_size _ rfl) rfl
    refine news_sub N1' fun p hp => ?_
    unfold LC.led LC.rest LC.withS at hp
    unfold LC.led LC.rest
    simp only [List.mem_cons, List.mem_append] at hp ⊢
    rcases hp with h | h | h | h | h | h | h
    · exact .inr (.inl h)
    · exact .inr (.inr (.inl h))
    · exact .inr (.inr (.inr (.inl h)))
    · exact .inr (.inr (.inr (.inr (.inl h))))
    · exact .inr (.inr (.inr (.inr (.inr (.inl h)))))
    · exact .inl h
    · exact .inr (.inr (.inr (.inr (.inr (.inr h)))))
  have hSl : (h.push { cls := .type "list", data := .seq #[] }).get? h.objs.size = some { cls := .type "list", data := .seq #[] } := Heap.get?_push_size _ rfl
  refine ⟨⟨_, hSl, rfl⟩, PySem.F.args_list_init_2 _ _, ?_⟩
  dsimp only at F1 ⊢
  show wpAny _ A.in1.in1 (do let old ← Builtin.List.listItems (.ref h.objs.size); Builtin.List.listUpdate (.ref h.objs.size) (fun _ => #[]); letGo old.toList.reverse; Builtin.List.listExtendWith (.ref h.objs.size) (.ref c.x) .none) _ _ _
  refine wpAny_bind ?_
  unfold Builtin.List.listItems
  refine wpAny_bind (wpAny_seqItems hSl rfl (wpAny_pure ?_))
  show wpAny _ A.in1.in1 (updateSeq h.objs.size (fun _ => #[]) >>= fun _ => letGo (#[] : Array Value).toList.reverse >>= fun _ => Builtin.List.listExtendWith (.ref h.objs.size) (.ref c.x) .none) _ _ _
  refine wpAny_bind (seq_U (acc := []) (acc' := []) (n := 0) (n' := 0) (s := { c.s0 with heap := h.push { cls := .type "list", data := .seq #[] }, toks := tk }) F1 N1 (by simp [Obj.mapSeq, W.listOf]) (LC.updS hS) (by simp) (by simp) fun h2 F2 N2 => ?_)
  refine wpAny_bind (wpAny_letGo ?_)
  have I2 := InstAt.of_news N2 (.head _) (.tail _ (.head _))
  have X2 := o.X.keeps F2.keep
  unfold Builtin.List.listExtendWith
  refine wpAny_bind (I2.type.here ?_)
  have h1 : Builtin.List.listSameRef (.ref h.objs.size) (.ref c.x) = false := by simp [Builtin.List.listSameRef, hS.x.symm]
  have h2 : (Value.ref 727 == Value.type "list") = false := by decide
  have h3 : (Value.ref 727 == Value.type "tuple") = false := by decide
  simp only [h1, h2, h3, Bool.or_false, Bool.false_eq_true, if_false]
  refine wpAny_bind (owit_iter (K := Mine.hd.heap_39 c.w.params) (f := 717) F2 o.X I2 (by k_is) (by k_is) (by_code (iter_spec (am.in1.in1.less (k := 1) (by decide)) F2 N2 fun h3 tk3 F3 N3 => ?_)))
  have I3 := InstAt.of_news N3 (.head _) (.tail _ (.head _))
  have X3 := o.X.keeps F3.keep
  refine owit_it (K := Mine.hd.heap_39 c.w.params) (g := .ref 724) F3 o.X I3 (by k_is) ?_
  refine wpAny_bind (wpAny_holding ?_)
  unfold Builtin.List.listLengthHint
  refine wpAny_bind (wpAny_bind (I3.type.here ((looks_findIn X3 (r := none) (by k_is)).here ?_)))
  show wpAny _ A.in1.in1 (specialOf (Value.ref c.x) (Str.ofString "__length_hint__") >>= _) _ _ _
  refine wpAny_bind (wpAny_bind (I3.type.here ((looks_findIn X3 (r := none) (by k_is)).here ?_)))
  refine wpAny_pure ?_
  show wpAny _ A.in1.in1 (rule "list.extend.makes-room" >>= fun _ => Builtin.List.listTouch (.ref h.objs.size) >>= fun _ => again (.builtin "list.extend.loop" ⟨[.ref h.objs.size, .ref c.x, .none], []⟩)) _ _ _
  refine wpAny_bind (wpAny_rule ?_)
  refine wpAny_bind ?_
  show wpAny _ A.in1.in1 (updateSeq h.objs.size (·.push .none) >>= fun _ => updateSeq h.objs.size (·.pop)) _ _ _
  refine wpAny_bind (push_U (acc := []) (n := 0) (s := { c.s0 with heap := h3, toks := tk3 }) F3 N3 (LC.updS hS) (by simp) fun h4 F4 N4 => ?_)
  refine seq_U (acc := [Value.none]) (acc' := []) (n := 1) (n' := 2) (s := { c.s0 with heap := h4, toks := tk3 }) F4 N4 (by simp [Obj.mapSeq, W.listOf]) (LC.updS hS) (by simp) (by simp) fun h5 F5 N5 => ?_
  refine wpAny_pure ⟨plainId_quiet PySem.F.plain_extend_loop _, ?_⟩
  refine ext_loop o hord hS (am.in1.less (by decide)) ts [] 2 .sp 0 [] _ (by simpa using hL) (.inr rfl) (by simp) (fun _ => rfl) (by simp; omega) ⟨h5, tk3, m, es, ne, ei, ni, kk, vts, rfl, F5, hm, N5, D.wS, I.wS, T⟩ ?_ ?_
  · intro he g' h' tk' m' vs n' T' K' hv F' hm' N'
    exact ⟨rfl, k he _ g' h' tk' m' vs n' T' K' hv F' hm' N' hfz⟩
  · intro esc he x t tt g₂ m' h' tk' news' F' hm' U' R' hn'
    exact ke esc he x t tt g₂ m' h' tk' news' F' hm' U' R' hn'
end
end Mine
/-! SI -/
namespace Mine
open PySem PySem.W PySem.Calls PyProof.Rows PySem.Spec
theorem zz_SI {P : Nat → Prop} (h : ∃ x, P x) : ∃ x, P x := by first | (w_top off; walk1; fail) | exact h
theorem fill_si : ∀ (w : World) (h : Heap), (Mine.hd.heap_39 w.params).In h → PySem.Challenge.rw_mq0398_01.row.prog = PySem.Challenge.rw_mq0398_01.row.prog := by
  k_fill
  intros; rfl
section
variable {w : World} {mg mb : Str → Option Value} {mean : ExcName → Option Value} {n : Nat} {A A₀ : Around} {base h₀ : Heap} {env : Env} {outer : List Env} {L : Addr} {s : Shared} {m : Str → Option Value} {news : List (Addr × Obj)}
noncomputable def okCls (K : Frag) (C : Addr) : Bool := match K.lookup C with
  | some ⟨_, _, .cls cd, _⟩ => !cd.abstract && !cd.hasDel && !cd.mro.isEmpty
  | _ => false
theorem okCls_of {K : Frag} {C : Addr} {h : Heap} (X : K.In h) (e : okCls K C = true) : ∃ oc od cd sl, h.get? C = some ⟨oc, od, .cls cd, sl⟩ ∧ cd.abstract = false ∧ cd.hasDel = false ∧ cd.mro.isEmpty = false := by
  unfold okCls at e
  split at e
  · rename_i oc od cd sl ho
    simp only [Bool.and_eq_true, Bool.not_eq_true'] at e
    exact ⟨oc, od, cd, sl, X _ _ ho, e.1.1, e.1.2, e.2⟩
  · cases e
theorem look_made {M : Model} {h : Heap} (X : (Mine.hd.heap_39 w.params).In h) : Looks M h (Bind.madeHere "object.__new__" (.ref 592)) () := Looks.of_peek X (by kernel_rfl)
theorem look_mb {M : Model} {h : Heap} (X : (Mine.hd.heap_39 w.params).In h) : Looks M h (Bind.madeBy (.ref 592)) none := Looks.of_peek X (by kernel_rfl)
theorem new_own {prog : Program} {R : Result → Shared → Prop} {h : Heap} {g : Array GenState} {d : Drawn} {t : Nat} {os : OsState} (X : (Mine.hd.heap_39 w.params).In h)
    (hq : R (.ok (.ret (.ref (h.objs.size + 1)))) ⟨(h.push emptyDict).push (instObj 592 h.objs.size), g, d, t, os⟩) :
    codeAny (model prog w) A (.call (.builtin "object.__new__") ⟨[.ref 592], []⟩) R ⟨h, g, d, t, os⟩ := by
  obtain ⟨oc, od, cd, sl, hC, e1, e2, e4⟩ := okCls_of (C := 592) X (by kernel_rfl)
  have F := PySem.F.objNew
  refine codeAny_call_builtin_code (Code.quiet_builtin _ F.quiet) ?_
  simp only [checkBuiltinCall, F.kind, F.split, F.row]
  have sb : Looks (model prog w) h (Bind.staticBase (.ref 592)) (.type "object") := Looks.of_peek X (by kernel_rfl)
  have mb : Looks (model prog w) h (Bind.madeBy (.type "object")) (some "object.__new__") := Looks.of_peek X (by kernel_rfl)
  have here : Looks (model prog w) h (Bind.madeHere "object.__new__" (.ref 592)) () := look_made X
  have args : Bind.checkArgs "object.__new__" ⟨.hand, "object.__new__", "__new__", .cls, []⟩ ⟨[.ref 592], []⟩ = pure () := by kernel_rfl
  have typ : Looks (model prog w) h (isType (.ref 592)) true := Looks.of_peek X (by kernel_rfl)
  have self : Looks (model prog w) h (isSubtype (.ref 592) (.type "object")) true := Looks.of_peek X (by kernel_rfl)
  rw [args]
  repeat (first | simp only [Option.map_some, bne_self_eq_false, Bool.false_eq_true, if_false] | lk)
  refine codeAny_builtin F.entry ?_
  unfold Builtin.«object.__new__»
  repeat (first | simp only [e1, Bool.false_eq_true, if_false] | lk)
  refine nd_load (Heap.get?_push_of_some _ (Heap.get?_push_of_some _ hC)) ?_
  refine wpAny_pure ?_
  dsimp only
  refine wpAny_pure ?_
  rw [e2]
  refine wpAny_pure (wpAny_pure ?_)
  show R _ _
  rw [Heap.size_push]
  exact hq
theorem new_spec {R : Result → Shared → Prop} {x : Str} {t : Tok} (a : Amb w mg mb mean (n + 1) A A₀ base h₀ env outer L) (F : Fr h₀ L s.heap m) (N : News h₀ L s.heap news)
    (k : ∀ y dy nw h' tk', Fr h₀ L h' m → News h₀ L h' ((y, instObj 592 dy) :: (dy, emptyDict) :: (nw ++ news)) → (∀ p ∈ nw ++ news, p.1 < dy) → dy < y → R (.ok (.ret (.ref y))) { s with heap := h', toks := tk' }) :
    codeAny (model Challenge.rw_mq0398_01.row.prog w) A (.call (.ref 85) ⟨[.ref 592, .str x t], []⟩) R s := by
  refine' kp_both (ex := []) (vs := [.str x t]) a.B F a.X N a.T a.hA a.hf a.hk ?ho ?hcd ?hroom ?hv ?hx ?hnr ?hnm ?hn ?hD ?hfr ?hp ?hp2 ?hk2 ?hloc ?_ ?c1 ?c2 ?c3 ?c4
  case ho => walk_at "ho"
  case hcd => k_is
  case hroom => have := a.hd; unfold recursionLimit; omega
  case hv => exact rfl
  case hx => exact rfl
  case hnr => exact rfl
  case hnm => exact rfl
  case hn => exact rfl
  case hD => exact .nil
  case hfr => exact rfl
  case hp => exact rfl
  case hp2 => exact fun _ => rfl
  case hk2 => exact fun _ _ => rfl
  case hloc => exact fun _ _ => locs rfl
  case c1 => exact rfl
  case c2 => exact rfl
  case c3 => exact rfl
  case c4 => decide
  intro C D o g L' h₁ tk l1 l2 hs hI hf FG F' N' B' X' T'
  (try dsimp only)
  (try k_fold)
  k_steps
  refine wpAny_call (new_own (X'.keeps F'.keep) ?_)
  have N2 := (N'.push F' emptyDict).push (F'.push _) (instObj 592 h₁.objs.size)
  rw [Heap.size_push] at N2
  refine leaveK_ ((F'.push _).push _) N2 (fun F3 N3 => ?_)
  exact k _ _ [_, _] _ _ F3 N3 (fun p hp => Heap.lt_size (N' p hp).1) (Nat.lt_succ_self _)
end
end Mine
/-! SJ -/
namespace Mine
open PySem PySem.W PySem.Calls PyProof.Rows PySem.Spec
theorem zz_SJ {P : Nat → Prop} (h : ∃ x, P x) : ∃ x, P x := by first | (w_top off; walk1; fail) | exact h
theorem fill_sj : ∀ (w : World) (h : Heap), (Mine.hd.heap_39 w.params).In h → PySem.Challenge.rw_mq0398_01.row.prog = PySem.Challenge.rw_mq0398_01.row.prog := by
  k_fill
  intros; rfl
section
variable {w : World} {mg mb : Str → Option Value} {mean : ExcName → Option Value} {n : Nat} {A A₀ : Around} {base h₀ : Heap} {env : Env} {outer : List Env} {L : Addr} {s : Shared} {m : Str → Option Value} {news : List (Addr × Obj)}
local macro_rules | `(tactic| walk_at "lx") => fresh (onlx true)
local macro_rules | `(tactic| walk_at "getAttr ref") => fresh (ruleD "get_own" "aaniiiixh_" "" false)
local macro_rules | `(tactic| walk_at "getMethod ref") => fresh (ruleD "method_inst" "aaniiix_" "" false)
local macro_rules | `(tactic| walk_at "setAttr ref") => fresh (ruleD "set_N" "aaanriiiixuo_" "h' F' N' hl'" true)
local macro_rules | `(tactic| walk_at "setAttr ref") => fresh (ruleD "set_A" "aaanriiiixuo_" "h' F' N' hl'" true)
local macro_rules | `(tactic| walk_at "call ref") => fresh (callAt "369")

theorem trans_spec {R : Result → Shared → Prop} {y dy : Addr} {es : List DictEntry} {ne : Nat} {x : Str} {t tn : Tok} (a : Amb w mg mb mean (n + 1) A A₀ base h₀ env outer L) (F : Fr h₀ L s.heap m) (N : News h₀ L s.heap ((y, instObj 592 dy) :: (dy, dictOf es ne) :: news))
    (hnl : getL (Str.ofString "_StringIO__newline") es = some (some (.str (Str.ofString "\n") tn)))
    (k : ∀ h' tk', Fr h₀ L h' m → News h₀ L h' ((y, instObj 592 dy) :: (dy, dictOf es ne) :: news) → R (.ok (.ret (.str x t))) { s with heap := h', toks := tk' }) :
    codeAny (model Challenge.rw_mq0398_01.row.prog w) A (.call (.ref 369) ⟨[.ref y, .str x t], []⟩) R s := by
  refine' enter a F N ?ho ?hcd ?hb ?hl ?_ ?c1 ?c2 ?c3 ?c4
  case ho => walk_at "ho"
  case hcd => k_is
  case hb => exact BindsTo.of_eq rfl
  case hl => exact locs rfl
  case c1 => exact rfl
  case c2 => exact rfl
  case c3 => exact rfl
  case c4 => decide
  intro g L' h' FG' Am F' N'
  have Am0 := Am
  obtain ⟨B', X', T', hA', hf', hk', hd', hu', hh'⟩ := Am
  (try dsimp only)
  refine no_raise ?_
  (try k_fold)
  k_steps
  exact leaveK_ (by assumption) (by assumption) (fun F1 N1 => k _ _ F1 N1)

theorem sio_spec {R : Result → Shared → Prop} {y dy : Addr} {tx : List Nat} {t : Tok} (a : Amb w mg mb mean (n + 2) A A₀ base h₀ env outer L) (F : Fr h₀ L s.heap m) (N : News h₀ L s.heap ((y, instObj 592 dy) :: (dy, dictOf [] 0) :: news))
    (hlt : dy < y) (hfz : ∀ p ∈ news, p.1 ≠ dy)
    (k : ∀ es' ne' h' tk', Fr h₀ L h' m → News h₀ L h' ((y, instObj 592 dy) :: (dy, dictOf es' ne') :: news) → es'.length ≤ 10 → (∃ t, getL (Str.ofString "_StringIO__buf") es' = some (some (.str (S tx) t))) → (∃ t, getL (Str.ofString "_StringIO__pos") es' = some (some (.int 0 t))) →
      getL (Str.ofString "_StringIO__check") es' = some none → getL (Str.ofString "read") es' = some none → R (.ok (.ret .none)) { s with heap := h', toks := tk' }) :
    codeAny (model Challenge.rw_mq0398_01.row.prog w) A (.call (.ref 362) ⟨[.ref y, .str (S tx) t], []⟩) R s := by
  replace hlt := ltN hlt
  refine' enter a F N ?ho ?hcd ?hb ?hl ?_ ?c1 ?c2 ?c3 ?c4
  case ho => walk_at "ho"
  case hcd => k_is
  case hb => exact binds_K (a.X.keeps F.keep) rfl (by k_is) rfl rfl rfl
  case hl => exact locs rfl
  case c1 => exact rfl
  case c2 => exact rfl
  case c3 => exact rfl
  case c4 => decide
  intro g L' h' FG' Am F' N'
  have Am0 := Am
  obtain ⟨B', X', T', hA', hf', hk', hd', hu', hh'⟩ := Am
  (try dsimp only)
  refine no_raise ?_
  (try k_fold)
  k_steps
  refine by_code (trans_spec Am0 (by k_asm) (by k_asm) rfl ?_)
  intro h2 tk2 F2 N2
  dsimp only
  (try k_sweep)
  k_steps
  exact leaveK_ (by assumption) (by assumption) (fun F1 N1 => k _ _ _ _ F1 N1 (by show (3 : Nat) ≤ 10; decide) ⟨_, rfl⟩ ⟨_, rfl⟩ rfl rfl)

theorem Amb.under (a : Amb w mg mb mean (n + 1) A A₀ base h₀ env outer L) {C : Addr} {rest : List Value} {kw : List (Str × Value)} : Amb w mg mb mean n (A.under (.builtin "type.__call__" ⟨.ref C :: rest, kw⟩)) A₀ base h₀ env outer L := by
  have hfr : (A.under (.builtin "type.__call__" ⟨.ref C :: rest, kw⟩)).frames = A.frames := by
    obtain ⟨a1, a2, a3, a4, a5⟩ := A
    cases a3 <;> rfl
  have hd : (A.under (.builtin "type.__call__" ⟨.ref C :: rest, kw⟩)).depth = A.depth + 1 := rfl
  have hu : (A.under (.builtin "type.__call__" ⟨.ref C :: rest, kw⟩)).units = A.units + 1 := rfl
  exact { B := a.B, X := a.X, T := a.T, hA := hfr.trans a.hA, hf := a.hf, hk := a.hk, hd := by have := a.hd; omega, hu := by have := a.hu; omega, hh := a.hh }
theorem sio_make {R : Result → Shared → Prop} {tx : List Nat} {t : Tok} (a : Amb w mg mb mean (n + 3) A A₀ base h₀ env outer L) (F : Fr h₀ L s.heap m) (N : News h₀ L s.heap news)
    (k : ∀ y dy nw es' ne' h' tk', Fr h₀ L h' m → News h₀ L h' ((y, instObj 592 dy) :: (dy, dictOf es' ne') :: (nw ++ news)) → es'.length ≤ 10 → (∃ t, getL (Str.ofString "_StringIO__buf") es' = some (some (.str (S tx) t))) → (∃ t, getL (Str.ofString "_StringIO__pos") es' = some (some (.int 0 t))) →
      getL (Str.ofString "_StringIO__check") es' = some none → getL (Str.ofString "read") es' = some none → (∀ p ∈ nw ++ news, p.1 < dy) → dy < y → R (.ok (.ret (.ref y))) { s with heap := h', toks := tk' }) :
    codeAny (model Challenge.rw_mq0398_01.row.prog w) A (.call (.ref 592) ⟨[.str (S tx) t], []⟩) R s := by
  have X := a.X.keeps F.keep
  obtain ⟨oc, od, cd, sl, hC, e1, e2, e4⟩ := okCls_of (C := 592) X (by kernel_rfl)
  have call : Looks (model Challenge.rw_mq0398_01.row.prog w) s.heap (specialOf (.ref 592) "__call__") (some (.builtin "type.__call__")) := looks_specialIn X (by k_is)
  have typ : Looks (model Challenge.rw_mq0398_01.row.prog w) s.heap (isInstance (.ref 592) (.type "type")) true := looks_instIn X (by k_is)
  have mb := look_mb (M := model Challenge.rw_mq0398_01.row.prog w) X
  refine codeAny_of_tree ?_
  show wpAny _ _ (callAny (.ref 592) _) _ _ _
  refine nd_load hC ?_
  show wpAny _ _ (callAny.viaDunder (.ref 592) _) _ _ _
  unfold callAny.viaDunder
  refine wpAny_bind (call.at ?_)
  dsimp only
  rw [tc_bind]
  refine wpAny_bind (wpAny_pure (wpAny_bind (wpAny_pure ?_)))
  refine wpAny_pure (a := Fin.again (.call (.builtin "type.__call__") ⟨[.ref 592, .str (S tx) t], []⟩)) (And.intro rfl ?_)
  refine codeAny_call_builtin_at (Code.quiet_builtin _ (by decide +kernel)) entry_typeCall (check_slot tc_kind tc_split typ (tc_args _ _ _) ?_)
  unfold Builtin.«type.__call__»
  have hm : Looks (model Challenge.rw_mq0398_01.row.prog w) s.heap (mroOf (.ref 592)) cd.mro := ((Looks.ld (part := none) hC).andThen .now).andThen .now
  repeat (fail_if_success (with_reducible show wpAny _ _ (getAttr (Value.ref 592) _ _) _ _ _)); first | simp only [e4, Bool.false_eq_true, if_false] | lk
  refine cls_sm (K := Mine.hd.heap_39 w.params) F a.X (by k_is) (by k_is) (by k_is) (by k_is) (by k_handed) ?_
  refine wpAny_bind (wpAny_holding (by_code (new_spec (n := n + 1) a.under F N fun y dy nw h1 tk1 F1 N1 l1 l2 => ?_)))
  dsimp only
  have X1 := a.X.keeps F1.keep
  have t1 : Looks (model Challenge.rw_mq0398_01.row.prog w) h1 (typeOf (.ref y)) (.ref 592) := (Looks.ld (N1 _ (.head _)).1).andThen .now
  have s1 : Looks (model Challenge.rw_mq0398_01.row.prog w) h1 (isSubtype (.ref 592) (.ref 592)) true := Looks.of_peek X1 (by kernel_rfl)
  have i1 : Looks (model Challenge.rw_mq0398_01.row.prog w) h1 (typeLookup (.ref 592) (Str.ofString "__init__")) (some (.ref 362)) := looks_findIn X1 (by k_is)
  have b1 : Looks (model Challenge.rw_mq0398_01.row.prog w) h1 (bindSpecial (.ref 362) (.ref y)) (.ref 362, [.ref y]) := bind_fn X1 _ (by kernel_rfl)
  unfold isInstance callSpecial? specialOf
  repeat (first | with_reducible refine wpAny_call ?_ | lk)
  refine sio_spec (n := n) (news := nw ++ news) a.under F1 N1 l2 (fun p hp => Nat.ne_of_lt (l1 p hp)) fun es' ne' h2 tk2 F2 N2 hl hb hp hc hr => ?_
  dsimp only
  refine wpAny_pure ?_
  dsimp only
  rw [if_neg (by decide)]
  exact wpAny_pure (k y dy nw es' ne' h2 tk2 F2 N2 hl hb hp hc hr l1 l2)
end
end Mine
/-! DQ -/
namespace Mine
open PySem PySem.W PySem.Calls PyProof.Rows PySem.Spec
noncomputable abbrev dqT : String := "collections.deque"
theorem dq_mro : mroOf (.type "collections.deque") = pure [.type "collections.deque", .type "object"] := by rw [mroOf_type]; kernel_rfl
theorem dq_lookup_new : typeLookup (.type "collections.deque") "__new__" = pure (some (.builtin "collections.deque.__new__")) := by rw [typeLookup_type, builtinLookup_eq_fast]; kernel_rfl
theorem dq_slot_init : Slot "collections.deque" "__init__" "collections.deque.__init__" :=
  .of (owner := "collections.deque") (n := "__init__") (by rw [typeLookup_type, builtinLookup_eq_fast]; kernel_rfl) (by decide +kernel) (by decide +kernel) (by decide +kernel)
    (by first | exact .inl (by decide +kernel) | exact .inr (by decide +kernel)) (by rw [isSubtype_type]; kernel_rfl)
theorem dq_called : TypeCalled "collections.deque" "collections.deque.__new__" "collections.deque.__init__" :=
  ⟨by decide +kernel, by decide +kernel, ⟨_, _, dq_mro⟩, madeBy_type dq_mro dq_lookup_new (by decide +kernel), by decide +kernel, by rw [isSubtype_type]; kernel_rfl, dq_slot_init⟩
theorem dq_typeCall : checkTypeCall "collections.deque" ⟨[], []⟩ = pure () := by kernel_rfl
theorem dq_newCall : checkBuiltinCall "collections.deque.__new__" ⟨[.type "collections.deque"], []⟩ = pure () := by kernel_rfl
theorem dq_entry_new : entryFor table "collections.deque.__new__" = some Builtin.«collections.deque.__new__» := entryFor_of_tree (by kernel_rfl)
theorem dq_plain_new : plainId "collections.deque.__new__" = true := by decide +kernel
theorem dq_entry_init : entryFor table "collections.deque.__init__" = some Builtin.«collections.deque.__init__» := entryFor_of_tree (by kernel_rfl)
theorem dq_args_init (a : Value) : argsOk "collections.deque.__init__" ⟨[a], []⟩ := by unfold argsOk; kernel_rfl
theorem dq_new_run : Builtin.«collections.deque.__new__» ⟨[.type "collections.deque"], []⟩ = Sem.alloc (dqO 0 []) (fun a => Sem.pure (Fin.done (.ret (.ref a)))) := by kernel_rfl
section
variable {prog : Program} {w : World} {A : Around} {E : Value → Shared → Prop} {s : Shared} {h₀ : Heap} {L : Addr} {m : Str → Option Value} {news : List (Addr × Obj)}
theorem dq_make {Q : Value → Shared → Prop} (F : Fr h₀ L s.heap m) (N : News h₀ L s.heap news) (h : ∀ d h', Fr h₀ L h' m → News h₀ L h' ((d, dqO 0 []) :: news) → (∀ p ∈ news, p.1 < d) → Q (.ref d) { s with heap := h' }) :
    wpAny (model prog w) A (call (.type "collections.deque") []) Q E s := by
  refine callType_codes (Q₁ := fun obj s₁ => obj = .ref s.heap.objs.size ∧ s₁ = { s with heap := s.heap.push (dqO 0 []) }) dq_called dq_typeCall dq_entry_init ?_ fun obj s₁ h₁ => ?_
  · refine codeAny_of_tree ?_
    show wpAny _ _ (do checkBuiltinCall "collections.deque.__new__" ⟨[.type "collections.deque"], []⟩; again (.builtin "collections.deque.__new__" ⟨[.type "collections.deque"], []⟩)) _ _ s
    refine wpAny_bind (wpAny_of_eq dq_newCall (wpAny_pure ⟨plainId_quiet dq_plain_new _, codeAny_builtin dq_entry_new ?_⟩))
    rw [dq_new_run]
    refine nd_alloc ?_
    exact wpAny_pure ⟨rfl, rfl⟩
  · obtain ⟨rfl, rfl⟩ := h₁
    have hS : (s.heap.push (dqO 0 [])).get? s.heap.objs.size = some (dqO 0 []) := Heap.get?_push_size _ rfl
    refine ⟨⟨_, hS, rfl⟩, dq_args_init _, ?_⟩
    show wpAny _ _ (setField (.ref s.heap.objs.size) 0 .none >>= fun _ => Builtin.Deque.clear (.ref s.heap.objs.size) >>= fun _ => ret .none) _ _ _
    have hu : Obj.mapFields (·.setIfInBounds 0 Value.none) (dqO 0 []) = dqO 0 [] := rfl
    refine wpAny_bind (wpAny_setField hS rfl (by show 0 < 2; decide) ?_)
    have hS2 : ((s.heap.push (dqO 0 [])).update s.heap.objs.size (Obj.mapFields (·.setIfInBounds 0 Value.none))).get? s.heap.objs.size = some (dqO 0 []) := by
      rw [Heap.get?_update_self _ hS (by rw [hu]; rfl), hu]
    have F1 : Fr h₀ L ((s.heap.push (dqO 0 [])).update s.heap.objs.size (Obj.mapFields (·.setIfInBounds 0 Value.none))) m := (F.push (dqO 0 [])).change (Heap.SameBut.update ..) (Nat.ne_of_gt F.ns.lt) (none_at_size F)
    unfold Builtin.Deque.clear Builtin.Deque.items
    refine wpAny_bind (wpAny_bind (wpAny_bind (wpAny_fieldsOf hS2 rfl (wpAny_pure ?_))))
    refine wpAny_pure (wpAny_pure ⟨rfl, h _ _ F1 (fun p hp => ?_) (fun p hp => Heap.lt_size (N p hp).1)⟩)
    rcases List.mem_cons.mp hp with rfl | hp
    · exact ⟨hS2, Nat.ne_of_gt F.ns.lt, none_at_size F⟩
    · have hne : p.1 ≠ s.heap.objs.size := Nat.ne_of_lt (Heap.lt_size (N p hp).1)
      exact ⟨(Heap.get?_update_other _ _ (Ne.symm hne)).trans (Heap.get?_push_of_some _ (N p hp).1), (N p hp).2⟩
end
end Mine
/-! IN -/
namespace Mine
open PySem PySem.W PySem.Calls PyProof.Rows PySem.Spec
theorem zz_IN {P : Nat → Prop} (h : ∃ x, P x) : ∃ x, P x := by first | (w_top off; walk1; fail) | exact h
theorem fill_in : ∀ (w : World) (h : Heap), (Mine.hd.heap_39 w.params).In h → PySem.Challenge.rw_mq0398_01.row.prog = PySem.Challenge.rw_mq0398_01.row.prog := by
  k_fill
  intros; rfl
section
variable {w : World} {mg mb : Str → Option Value} {mean : ExcName → Option Value} {n : Nat} {A A₀ : Around} {base h₀ : Heap} {env : Env} {outer : List Env} {L : Addr} {s : Shared} {m : Str → Option Value} {news : List (Addr × Obj)}
local macro_rules | `(tactic| walk_at "call ref") => fresh (callAt "592")
local macro_rules | `(tactic| walk_at "call type:collections.deque") => fresh (par [ruleH "dq_make" "aa_" "d' h' F' N' l1" false, lt "l1", tri (own "sweep" [])])

local macro_rules | `(tactic| walk_at "getAttr ref") => fresh (ruleD "get_F" "aaniiiisrh_" "tk'" false)
local macro_rules | `(tactic| walk_at "setAttr ref") => fresh (ruleD "set_F" "aaanriiiisfl_" "h' es' n' tk' F' N' D'" true)

structure RawD (io pb fs : Addr) (com wc pun : List Nat) (wsp : Bool) (pc : Option Addr) (es : List DictEntry) : Prop where
  len : es.length ≤ 50
  instream : getL (Str.ofString "instream") es = some (some (.ref io))
  posix : getL (Str.ofString "posix") es = some (some (.bool true))
  eof : getL (Str.ofString "eof") es = some (some .none)
  com : ∃ t, getL (Str.ofString "commenters") es = some (some (.str (S com) t))
  wc : ∃ t, getL (Str.ofString "wordchars") es = some (some (.str (S wc) t))
  ws : ∃ t, getL (Str.ofString "whitespace") es = some (some (.str (S [32, 9, 13, 10]) t))
  wsp : getL (Str.ofString "whitespace_split") es = some (some (.bool wsp))
  quotes : ∃ t, getL (Str.ofString "quotes") es = some (some (.str (S [39, 34]) t))
  escape : ∃ t, getL (Str.ofString "escape") es = some (some (.str (S [92]) t))
  escq : ∃ t, getL (Str.ofString "escapedquotes") es = some (some (.str (S [34]) t))
  state : ∃ t, getL (Str.ofString "state") es = some (some (.str (S [32]) t))
  pushback : getL (Str.ofString "pushback") es = some (some (.ref pb))
  lineno : ∃ ln t, getL (Str.ofString "lineno") es = some (some (.int ln t))
  debug : ∃ t, getL (Str.ofString "debug") es = some (some (.int 0 t))
  token : ∃ t, getL (Str.ofString "token") es = some (some (.str (S []) t))
  filestack : getL (Str.ofString "filestack") es = some (some (.ref fs))
  source : getL (Str.ofString "source") es = some (some .none)
  pun : ∃ t, getL (Str.ofString "_punctuation_chars") es = some (some (.str (S pun) t))
  pcs : ∀ a, pc = some a → getL (Str.ofString "_pushback_chars") es = some (some (.ref a))
  rt : getL (Str.ofString "read_token") es = some none
  gt : getL (Str.ofString "get_token") es = some none
theorem news_re {g : Heap} {L : Addr} {h : Heap} {a b c d e f : Addr × Obj} {l : List (Addr × Obj)} (N : News g L h (a :: b :: c :: d :: e :: f :: l)) : News g L h (e :: f :: c :: d :: b :: a :: l) := news_sub N fun p hp => by
  simp only [List.mem_cons] at hp ⊢
  rcases hp with h | h | h | h | h | h | h
  · exact .inr (.inr (.inr (.inr (.inl h))))
  · exact .inr (.inr (.inr (.inr (.inr (.inl h)))))
  · exact .inr (.inr (.inl h))
  · exact .inr (.inr (.inr (.inl h)))
  · exact .inr (.inl h)
  · exact .inl h
  · exact .inr (.inr (.inr (.inr (.inr (.inr h)))))
theorem lit_com : Str.ofString "#" = S [35] := by decide +kernel
theorem lit_wcS : Str.ofString "abcdfeghijklmnopqrstuvwxyzABCDEFGHIJKLMNOPQRSTUVWXYZ0123456789_" ++ Str.ofString "ßàáâãäåæçèéêëìíîïðñòóôõöøùúûüýþÿÀÁÂÃÄÅÆÇÈÉÊËÌÍÎÏÐÑÒÓÔÕÖØÙÚÛÜÝÞ" = S wcS := by decide +kernel
theorem lit_ws : Str.ofString " \t\r\n" = S [32, 9, 13, 10] := by decide +kernel
theorem lit_quo : Str.ofString "'\"" = S [39, 34] := by decide +kernel
theorem lit_sp : Str.ofString " " = S [32] := by decide +kernel
/-- what a text stream's dict says ahead of the first read -/
structure RawIo (tx : List Nat) (es : List DictEntry) : Prop where
  len : es.length ≤ 10
  buf : ∃ t, getL (Str.ofString "_StringIO__buf") es = some (some (.str (S tx) t))
  ps : ∃ t, getL (Str.ofString "_StringIO__pos") es = some (some (.int 0 t))
  chk : getL (Str.ofString "_StringIO__check") es = some none
  rd : getL (Str.ofString "read") es = some none
theorem init_S {R : Result → Shared → Prop} {x dx : Addr} {tx : List Nat} {t : Tok} (a : Amb w mg mb mean (n + 4) A A₀ base h₀ env outer L) (F : Fr h₀ L s.heap m) (N : News h₀ L s.heap ((x, instObj 727 dx) :: (dx, dictOf [] 0) :: news))
    (hlt : dx < x) (hfz : ∀ p ∈ news, p.1 < dx)
    (k : ∀ y dy pb fs es' ne' ei' ni' h' tk', Fr h₀ L h' m → News h₀ L h' ((x, instObj 727 dx) :: (dx, dictOf es' ne') :: (y, instObj 592 dy) :: (dy, dictOf ei' ni') :: (pb, dqO 0 []) :: (fs, dqO 0 []) :: news) →
      RawD y pb fs [35] wcS [] false none es' → RawIo tx ei' → x < dy ∧ dy < y ∧ y < pb ∧ pb < fs → R (.ok (.ret .none)) { s with heap := h', toks := tk' }) :
    codeAny (model Challenge.rw_mq0398_01.row.prog w) A (.call (.ref 651) ⟨[.ref x, .str (S tx) t], [(Str.ofString "posix", .bool true)]⟩) R s := by
  replace hlt := ltN hlt
  refine' enter a F N ?ho ?hcd ?hb ?hl ?_ ?c1 ?c2 ?c3 ?c4
  case ho => walk_at "ho"
  case hcd => k_is
  case hb => exact kp_binds (a.X.keeps F.keep) (fun _ => rfl)
  case hl => exact locs rfl
  case c1 => exact rfl
  case c2 => exact rfl
  case c3 => exact rfl
  case c4 => decide
  intro g L' h' FG' Am F' N'
  have Am0 := Am
  obtain ⟨B', X', T', hA', hf', hk', hd', hu', hh'⟩ := Am
  (try dsimp only)
  refine no_raise ?_
  refine opaqueQ fun Q9 kQ9 => ?_
  have D0 := Full.nil
  (try k_fold)
  k_steps
  refine by_code (sio_make Am0 (by k_asm) (by k_asm) ?_)
  intro y dy nw ei' ni' h2 tk2 F2 N2 hil hib hip hic hir l1 l2
  replace N2 := news_sub N2 (b := (y, instObj 592 dy) :: (dy, dictOf ei' ni') :: (x, instObj 727 dx) :: (dx, dictOf [] 0) :: news) (fun p hp => by
    simp only [List.mem_cons, List.mem_append] at hp ⊢
    rcases hp with h | h | h | h | h
    · exact .inl h
    · exact .inr (.inl h)
    · exact .inr (.inr (.inr (.inl h)))
    · exact .inr (.inr (.inr (.inr (.inl h))))
    · exact .inr (.inr (.inr (.inr (.inr h)))))
  replace l1 : ∀ p ∈ (x, instObj 727 dx) :: (dx, dictOf [] 0) :: news, p.1 < dy := fun p hp => l1 p (List.mem_append_right _ hp)
  replace l2 := ltN l2
  have l1' := l1
  (try k_lt l1')
  dsimp only
  (try k_sweep)
  k_steps
  rename News _ _ _ _ => N9
  rename Full _ _ => D9
  rename _ ∧ _ ∧ _ ∧ _ ∧ AllLt _ _ => hp1
  refine kQ9 _ _ ?_
  refine leaveK_ (by assumption) N9 (fun F1 N1 => k y dy _ _ _ _ ei' ni' _ _ F1 (news_re N1) ?_ ⟨hil, hib, hip, hic, hir⟩ ?_)
  · exact { len := Nat.le_trans D9.len (Nat.le_of_ble_eq_true rfl), instream := (D9.get _).trans rfl, posix := (D9.get _).trans rfl, eof := (D9.get _).trans rfl, com := ⟨_, by rw [D9.get, ← lit_com]; rfl⟩, wc := ⟨_, by rw [D9.get, ← lit_wcS]; rfl⟩, ws := ⟨_, by rw [D9.get, ← lit_ws]; rfl⟩, wsp := (D9.get _).trans rfl, quotes := ⟨_, by rw [D9.get, ← lit_quo]; rfl⟩,
            escape := ⟨_, by rw [D9.get, ← lit_bs]; rfl⟩, escq := ⟨_, by rw [D9.get, ← lit_q]; rfl⟩, state := ⟨_, by rw [D9.get, ← lit_sp]; rfl⟩, pushback := (D9.get _).trans rfl, lineno := ⟨_, _, (D9.get _).trans rfl⟩, debug := ⟨_, (D9.get _).trans rfl⟩, token := ⟨_, by rw [D9.get, ← lit_nil]; rfl⟩,
            filestack := (D9.get _).trans rfl, source := (D9.get _).trans rfl, pun := ⟨_, by rw [D9.get, ← lit_nil]; rfl⟩, pcs := nofun, rt := (D9.get _).trans rfl, gt := (D9.get _).trans rfl }
  · rename (_ : Nat) < _ ∧ _ < _ ∧ _ < _ ∧ _ < _ ∧ _ < _ ∧ AllLt _ _ => hp2
    exact ⟨(l1 _ (.head _)), l2, hp1.1, hp2.1⟩
end
end Mine
/-! ES -/
namespace Mine
open PySem PySem.W PySem.Calls PyProof.Rows PySem.Spec
theorem fill_es : ∀ (w : World) (h : Heap), (Mine.hd.heap_39 w.params).In h → PySem.Challenge.rw_mq0398_01.row.prog = PySem.Challenge.rw_mq0398_01.row.prog := by
  k_fill
  intros; rfl
/-- what a frame knows where exceptions may be caught below or within it -/
structure AmbS (w : World) (mg mb : Str → Option Value) (mean : ExcName → Option Value) (n : Nat) (A A₀ : Around) (base h₀ : Heap) (cn : Str) (cs : Scope) (a : Addr) (ccd : Value) (outer : List Env) (L : Addr) : Prop where
  am : Amb w mg mb mean n A A₀ base h₀ (envOf cn cs L a ccd) outer L
  XB : (Mine.hd.heap_39 w.params).In base
  TB : Top Mine.hd.view_39 LL mean mg mb base
  D : KtsDicts (outer.filterMap (·.frame)) h₀
section
variable {w : World} {mg mb : Str → Option Value} {mean : ExcName → Option Value} {n : Nat} {A A₀ : Around} {base h₀ : Heap} {cn : Str} {cs : Scope} {ca : Addr} {ccd : Value} {outer : List Env} {L : Addr} {s : Shared} {m : Str → Option Value} {news : List (Addr × Obj)}
theorem AmbS.less {k : Nat} (a : AmbS w mg mb mean n A A₀ base h₀ cn cs ca ccd outer L) (h : k ≤ n) : AmbS w mg mb mean k A A₀ base h₀ cn cs ca ccd outer L := { a with am := a.am.less h }
theorem AmbS.turn {h₀' : Heap} (a : AmbS w mg mb mean n A A₀ base h₀ cn cs ca ccd outer L) (B : Below A₀ base outer h₀') (T : KtsTurn (outer.filterMap (·.frame)) h₀ h₀') : AmbS w mg mb mean n A A₀ base h₀' cn cs ca ccd outer L :=
  { am := { a.am with B := B, X := a.XB.keeps B.stays, T := a.TB.keeps B.stays }, XB := a.XB, TB := a.TB, D := a.D.turn T }
theorem AmbS.in1 (a : AmbS w mg mb mean (n + 1) A A₀ base h₀ cn cs ca ccd outer L) : AmbS w mg mb mean n A.in1 A₀ base h₀ cn cs ca ccd outer L := { a with am := a.am.in1 }
/-- a def is entered that catches, or below which something is caught -/
theorem enterS {R : Result → Shared → Prop} {name qual : Str} {params : Arguments} {body : List Stmt} {scope : Scope} {dV kV doc pm cdv ct oc : Value} {an od : Option Addr} {osl : Array (Option Value)} {f : Addr} {args : Args} {binds : List (Str × Value)}
    (a : AmbS w mg mb mean (n + 1) A A₀ base h₀ cn cs ca ccd outer L) (F : Fr h₀ L s.heap m) (N : News h₀ L s.heap news)
    (ho : (Mine.hd.heap_39 w.params).lookup f = some ⟨oc, od, .func (fnOf name qual params body scope dV kV doc pm an cdv ct), osl⟩) (hcd : codeIn (Mine.hd.heap_39 w.params) cdv qual = true)
    (hbind : BindsTo s (fnOf name qual params body scope dV kV doc pm an cdv ct) args binds) (hloc : ∀ y ∈ binds, scope.names.lookup y.1 = some .local)
    (h : ∀ g L' h₁, Fr h₀ L g m → AmbS w mg mb mean n (A.deeper (envOf qual scope L' f cdv)) A base g qual scope f cdv (envOf cn cs L ca ccd :: outer) L' → Fr g L' h₁ (fun y => binds.reverse.lookup y) → News g L' h₁ news →
      wpAny (model Challenge.rw_mq0398_01.row.prog w) (A.deeper (envOf qual scope L' f cdv)) (execs body (envOf qual scope L' f cdv))
        (fun fl s' => LeaveS ((envOf cn cs L ca ccd :: outer).filterMap (·.frame)) A₀ base outer (Mine.hd.heap_39 w.params) Mine.hd.view_39 LL mean mg mb h₀ h₀ L m g R (match fl with | .ret v => v | _ => .none) s')
        (fun e s' => wpAny (model Challenge.rw_mq0398_01.row.prog w) (A.deeper (envOf qual scope L' f cdv)) (leaving (envOf qual scope L' f cdv) e) (fun _ s'' => R (.error e) s'') (fun e' s'' => R (.error e') s'') s')
        { s with heap := h₁, toks := s.toks + binds.length })
    (hco : scope.isCoroutine = false) (hgen : scope.isGenerator = false) (hk : scope.kind = .function)
    (hcell : ∀ x ∈ scope.names, x.2 ≠ .cell) : codeAny (model Challenge.rw_mq0398_01.row.prog w) A (.call (.ref f) args) R s :=
  code_defS a.am.B F a.am.X N a.am.T a.XB a.TB a.D KtsTurn.refl a.am.hA ho hcd (by have := a.am.hd; unfold recursionLimit; omega) hbind hloc
    (fun g L' h₁ FG F' N' B' X' T' D' => h g L' h₁ FG ⟨⟨B', X', T', Around.frames_deeper a.am.hA, rfl, hk, by have := a.am.hd; show A.depth + 1 + n < 999; omega, by have := a.am.hu; show A.units + 3 + 20 * n < 9900; omega, a.am.hh⟩, a.XB, a.TB, D'⟩ F' N') a.am.hk hco hgen hk hcell
end
end Mine
/-! SP -/
namespace Mine
open PySem PySem.W PySem.Calls PyProof.Rows PySem.Spec
theorem zz_SP {P : Nat → Prop} (h : ∃ x, P x) : ∃ x, P x := by first | (w_top off; walk1; fail) | exact h
theorem fill_sp : ∀ (w : World) (h : Heap), (Mine.hd.heap_39 w.params).In h → PySem.Challenge.rw_mq0398_01.row.prog = PySem.Challenge.rw_mq0398_01.row.prog := by
  k_fill
  intros; rfl
/-- the walker stops here -/
noncomputable def AtTree {α : Type} (M : Model) (A : Around) (t : Sem α) (Q : α → Shared → Prop) (E : Value → Shared → Prop) (s : Shared) : Prop := wpAny M A t Q E s
theorem at_tree {α : Type} {M : Model} {A : Around} {t : Sem α} {Q : α → Shared → Prop} {E : Value → Shared → Prop} {s : Shared} (h : AtTree M A t Q E s) : wpAny M A t Q E s := h
noncomputable def AtCode (M : Model) (A : Around) (c : Code) (R : Result → Shared → Prop) (s : Shared) : Prop := codeAny M A c R s
theorem at_code {M : Model} {A : Around} {c : Code} {R : Result → Shared → Prop} {s : Shared} (h : AtCode M A c R s) : codeAny M A c R s := h
theorem RawD.lexS {c : LC} {es : List DictEntry} {hs1 hs2 : Int} {t1 t2 t3 : Tok} (hlx : c.lx = false) (D : RawD c.io c.pb c.fs [35] wcS [] false none es) :
    LexD c (putL (Str.ofString "commenters") hs1 (.str (Str.ofString "commenters") t1) (.str (Str.ofString "") t3) (putL (Str.ofString "whitespace_split") hs2 (.str (Str.ofString "whitespace_split") t2) (.bool true) es)) .sp [] where
  len := by
    have h1 := putL_len (name := Str.ofString "whitespace_split") (hsh := hs2) (k := .str (Str.ofString "whitespace_split") t2) (v := .bool true) (es := es)
    have h2 := putL_len (name := Str.ofString "commenters") (hsh := hs1) (k := .str (Str.ofString "commenters") t1) (v := .str (Str.ofString "") t3) (es := putL (Str.ofString "whitespace_split") hs2 (.str (Str.ofString "whitespace_split") t2) (.bool true) es)
    have := D.len
    omega
  instream := (getL_put_ne (by decide +kernel)).trans ((getL_put_ne (by decide +kernel)).trans D.instream)
  posix := (getL_put_ne (by decide +kernel)).trans ((getL_put_ne (by decide +kernel)).trans D.posix)
  eof := (getL_put_ne (by decide +kernel)).trans ((getL_put_ne (by decide +kernel)).trans D.eof)
  com := ⟨t3, by rw [LC.com_S hlx, ← lit_nil]; exact getL_put_eq⟩
  wc := let ⟨t, h⟩ := D.wc; ⟨t, by rw [LC.wc_S hlx]; exact (getL_put_ne (by decide +kernel)).trans ((getL_put_ne (by decide +kernel)).trans h)⟩
  ws := let ⟨t, h⟩ := D.ws; ⟨t, (getL_put_ne (by decide +kernel)).trans ((getL_put_ne (by decide +kernel)).trans h)⟩
  wsp := by
    rw [show c.wsp = true from by unfold LC.wsp; rw [hlx]; rfl]
    exact (getL_put_ne (by decide +kernel)).trans getL_put_eq
  quotes := let ⟨t, h⟩ := D.quotes; ⟨t, (getL_put_ne (by decide +kernel)).trans ((getL_put_ne (by decide +kernel)).trans h)⟩
  escape := let ⟨t, h⟩ := D.escape; ⟨t, (getL_put_ne (by decide +kernel)).trans ((getL_put_ne (by decide +kernel)).trans h)⟩
  escq := let ⟨t, h⟩ := D.escq; ⟨t, (getL_put_ne (by decide +kernel)).trans ((getL_put_ne (by decide +kernel)).trans h)⟩
  state := let ⟨t, h⟩ := D.state; ⟨t, (getL_put_ne (by decide +kernel)).trans ((getL_put_ne (by decide +kernel)).trans h)⟩
  pushback := (getL_put_ne (by decide +kernel)).trans ((getL_put_ne (by decide +kernel)).trans D.pushback)
  lineno := let ⟨n, t, h⟩ := D.lineno; ⟨n, t, (getL_put_ne (by decide +kernel)).trans ((getL_put_ne (by decide +kernel)).trans h)⟩
  debug := let ⟨t, h⟩ := D.debug; ⟨t, (getL_put_ne (by decide +kernel)).trans ((getL_put_ne (by decide +kernel)).trans h)⟩
  token := let ⟨t, h⟩ := D.token; ⟨t, (getL_put_ne (by decide +kernel)).trans ((getL_put_ne (by decide +kernel)).trans h)⟩
  filestack := (getL_put_ne (by decide +kernel)).trans ((getL_put_ne (by decide +kernel)).trans D.filestack)
  source := (getL_put_ne (by decide +kernel)).trans ((getL_put_ne (by decide +kernel)).trans D.source)
  pun := let ⟨t, h⟩ := D.pun; ⟨t, by rw [LC.pun_S hlx]; exact (getL_put_ne (by decide +kernel)).trans ((getL_put_ne (by decide +kernel)).trans h)⟩
  pcs := fun h => by rw [hlx] at h; cases h
  rt := (getL_put_ne (by decide +kernel)).trans ((getL_put_ne (by decide +kernel)).trans D.rt)
  gt := (getL_put_ne (by decide +kernel)).trans ((getL_put_ne (by decide +kernel)).trans D.gt)
theorem RawIo.io {c : LC} {es : List DictEntry} (I : RawIo c.tx es) (h : c.tx.length ≤ 1000) : IoD c es 0 where
  len := by have := I.len; omega
  buf := I.buf
  ps := I.ps
  chk := I.chk
  rd := I.rd
  le := Nat.zero_le _
  fit := by simpa [Str.length] using h
section
variable {w : World} {mg mb : Str → Option Value} {mean : ExcName → Option Value} {n : Nat} {A A₀ : Around} {base h₀ : Heap} {cn : Str} {cs : Scope} {ca : Addr} {ccd : Value} {outer : List Env} {L : Addr} {s : Shared} {m : Str → Option Value} {news : List (Addr × Obj)}
local macro_rules | `(tactic| walk_at "lx") => fresh (onlx true)
local macro_rules | `(tactic| walk_at "setAttr ref") => fresh (ruleD "set_A" "aaanriiiixuo_" "h' F' N' hl'" true)
local macro_rules | `(tactic| walk_at "call ref") => fresh (par [shown "PySem.call (PySem.Value.ref 727) _ _", dflt (par [lineW true "call_cls" "aaaiii_" "x' d' h' F' N' l1 l2" false, go "at_code"])])
local macro_rules | `(tactic| walk_at "call type:list") => fresh (goH "at_tree")

theorem split_spec {R : Result → Shared → Prop} {tx : List Nat} {t : Tok} {ts : List (List Nat)} {e : Option Bool} (a : AmbS w mg mb mean (n + 20) A A₀ base h₀ cn cs ca ccd outer L) (F : Fr h₀ L s.heap m) (N : News h₀ L s.heap news)
    (hL : Lx false .sp [] false .sp tx ts e) (hlen : ts.length ≤ 4000) (htx : tx.length ≤ 1000)
    (k : e = none → ∀ h₀' h' tk' D vs n', KtsTurn (outer.filterMap (·.frame)) h₀ h₀' → Below A₀ base outer h₀' → Fr h₀' L h' m → News h₀' L h' ((D, W.listOf vs.toArray n') :: news) → (∀ p ∈ news, p.1 < D) → All2 (fun v t => ∃ tk, v = .str (Mine.S t) tk) vs ts → R (.ok (.ret (.ref D))) { s with heap := h', toks := tk' })
    (ke : ∀ esc, e = some esc → ∀ x t tt g₂ h' tk' news', Fr h₀ L g₂ m → g₂.UpToSlots h' → RaisedS base g₂ (envOf cn cs L ca ccd :: outer) x (.type "ValueError") t [.str (faultOf esc) tt] news' h' → (∀ p ∈ news, p ∈ news') → R (.error (.ref x)) { s with heap := h', toks := tk' }) :
    codeAny (model Challenge.rw_mq0398_01.row.prog w) A (.call (.ref 739) ⟨[.str (S tx) t], []⟩) R s := by
  refine' enterS a F N ?ho ?hcd ?hb ?hl ?_ ?c1 ?c2 ?c3 ?c4
  case ho => walk_at "ho"
  case hcd => k_is
  case hb => exact binds_K (a.am.X.keeps F.keep) rfl (by k_is) rfl rfl rfl
  case hl => exact locs rfl
  case c1 => exact rfl
  case c2 => exact rfl
  case c3 => exact rfl
  case c4 => decide
  intro g L' h' FG' AmS F' N'
  have Am0 := AmS.am
  obtain ⟨B', X', T', hA', hf', hk', hd', hu', hh'⟩ := AmS.am
  (try dsimp only)
  (try k_fold)
  k_steps
  rename_i x dx _ F1 N1 l1 l2
  refine init_S (n := n + 14) Am0.under (by k_asm) (by k_asm) l2 l1 ?_
  intro y dy pb fs es1 ne1 ei ni h2 tk2 F2 N2 D I hord
  refine ⟨rfl, ?_⟩
  have hw := D.wsp
  obtain ⟨tc, hc⟩ := D.com
  have hz := D.len
  have hlt2 := ltN l2
  obtain ⟨o1, o2, o3, o4⟩ := hord
  have o1' := ltN o1
  have o2' := ltN o2
  have o3' := ltN o3
  have o4' := ltN o4
  have hne : ∀ p ∈ news, p.1 ≠ dx := fun p hp => Nat.ne_of_lt (l1 p hp)
  clear F1 N1
  dsimp only
  (try k_sweep)
  k_steps
  rename News _ _ _ _ => N9
  rename Fr _ _ _ _ => F9
  have hx : ∀ p ∈ news, p.1 < dx := l1
  have hoff := fun p hp => (N9 p hp).2.1
  have o : LC.Ok { w := w, g := g, L := L', s0 := s, lx := false, x := x, dx := dx, io := y, dio := dy, pc := L', pb := pb, fs := fs, frz := (pb, dqO 0 []) :: (fs, dqO 0 []) :: news, tx := tx } :=
    { X := X', d1 := by show x ≠ dx; exact Nat.ne_of_gt hlt2, d2 := by show x ≠ dy; exact Nat.ne_of_lt o1', d3 := by show y ≠ dx; exact Nat.ne_of_gt (Nat.lt_trans hlt2 (Nat.lt_trans o1' o2')), d4 := by show y ≠ dy; exact Nat.ne_of_gt o2',
      d5 := by show dx ≠ dy; exact Nat.ne_of_lt (Nat.lt_trans hlt2 o1'), d6 := (hoff _ (.tail _ (.head _))).symm, d7 := (hoff _ (.tail _ (.tail _ (.tail _ (.head _))))).symm, d8 := (hoff _ (.head _)).symm, d9 := (hoff _ (.tail _ (.tail _ (.head _)))).symm
      f1 := fun p hp => by
        rcases List.mem_cons.mp hp with rfl | hp
        · show pb ≠ dx; exact Nat.ne_of_gt (Nat.lt_trans hlt2 (Nat.lt_trans o1' (Nat.lt_trans o2' o3')))
        · rcases List.mem_cons.mp hp with rfl | hp
          · show fs ≠ dx; exact Nat.ne_of_gt (Nat.lt_trans hlt2 (Nat.lt_trans o1' (Nat.lt_trans o2' (Nat.lt_trans o3' o4'))))
          · exact hne p hp
      f2 := fun p hp => by
        rcases List.mem_cons.mp hp with rfl | hp
        · show pb ≠ dy; exact Nat.ne_of_gt (Nat.lt_trans o2' o3')
        · rcases List.mem_cons.mp hp with rfl | hp
          · show fs ≠ dy; exact Nat.ne_of_gt (Nat.lt_trans o2' (Nat.lt_trans o3' o4'))
          · exact Nat.ne_of_lt (Nat.lt_trans (l1 p hp) (Nat.lt_trans hlt2 o1'))
      f3 := fun p hp => hoff p (.tail _ (.tail _ (.tail _ (.tail _ hp))))
      pbIn := ⟨0, .head _⟩, fsIn := ⟨0, .tail _ (.head _)⟩ }
  refine list_lex (l := []) (ts := ts) (e := e) o o2' (Am0.less (by omega)) ⟨_, _, _, _, _, ei, ni, 0, [], rfl, F9, (fun _ h => nomatch h), N9, D.lexS rfl, RawIo.io I htx, .nil⟩ F9.ns.lt hL hlen ?_ ?_
  · intro he S5 g5 h5 tk5 m5 vs n5 T5 K5 hv F5 _ N5 hlt5
    refine leaveS_r F5 (news_sub (b := (S5, W.listOf vs.toArray n5) :: news) N5 fun p hp => ?_) T5 (fun h₀' T0 Fh Nh B9 _ _ _ => k he h₀' h5 tk5 S5 vs n5 T0 B9 Fh Nh (fun p hp => hlt5 p (.tail _ (.tail _ hp))) hv)
    rcases List.mem_cons.mp hp with rfl | hp
    · exact .head _
    · exact .tail _ (.tail _ (.tail _ hp))
  · intro esc he x5 t5 tt g5 m5 h5 tk5 news5 F5 _ U5 R5 hn5
    exact leave_onS B' F5 R5 U5 fun h6 R6 _ U6 => ke esc he x5 t5 tt g h6 tk5 news5 FG' U6 R6 fun p hp => hn5 p (.tail _ (.tail _ hp))
end
end Mine
/-! TS -/
namespace Mine
open PySem PySem.W PySem.Calls PyProof.Rows PySem.Spec
theorem zz_TS {P : Nat → Prop} (h : ∃ x, P x) : ∃ x, P x := by first | (w_top off; walk1; fail) | exact h
theorem fill_ts : ∀ (w : World) (h : Heap), (Mine.hd.heap_39 w.params).In h → PySem.Challenge.rw_mq0398_01.row.prog = PySem.Challenge.rw_mq0398_01.row.prog := by
  k_fill
  intros; rfl
section
variable {w : World} {mg mb : Str → Option Value} {mean : ExcName → Option Value} {n : Nat} {A A₀ : Around} {base h₀ : Heap} {cn : Str} {cs : Scope} {ca : Addr} {ccd : Value} {outer : List Env} {L : Addr} {s : Shared} {m : Str → Option Value} {news : List (Addr × Obj)}
local macro_rules | `(tactic| walk_at "call ref") => fresh (callAt "739")
local macro_rules | `(tactic| walk_at "call type:str") => fresh (goH "at_tree")

theorem news_two {g : Heap} {L : Addr} {h : Heap} {a b c d : Addr × Obj} {l : List (Addr × Obj)} (N : News g L h (a :: b :: c :: d :: l)) : News g L h (a :: b :: l) := news_sub N fun p hp => by
  simp only [List.mem_cons] at hp ⊢
  rcases hp with h | h | h
  · exact .inl h
  · exact .inr (.inl h)
  · exact .inr (.inr (.inr (.inr h)))
theorem told_split {R : Result → Shared → Prop} {tx : List Nat} {t : Tok} {ts : List (List Nat)} {e : Option Bool} (a : AmbS w mg mb mean (n + 21) A A₀ base h₀ cn cs ca ccd outer L) (F : Fr h₀ L s.heap m) (N : News h₀ L s.heap news)
    (hL : Lx false .sp [] false .sp tx ts e) (hlen : ts.length ≤ 4000) (htx : tx.length ≤ 1000)
    (k : ∀ h₀' h' tk' x D vs n' flt tt, KtsTurn (outer.filterMap (·.frame)) h₀ h₀' → Below A₀ base outer h₀' → Fr h₀' L h' m → News h₀' L h' ((x, tupO [.ref D, .str flt tt]) :: (D, W.listOf vs.toArray n') :: news) → (∀ p ∈ news, p.1 < D) → D < x →
      (e = none → flt = S [] ∧ All2 (fun v t => ∃ tk, v = .str (Mine.S t) tk) vs ts) → (∀ esc, e = some esc → flt = faultOf esc ∧ vs = []) → R (.ok (.ret (.ref x))) { s with heap := h', toks := tk' }) :
    codeAny (model Challenge.rw_mq0398_01.row.prog w) A (.call (.ref 788) ⟨[.str (S tx) t], []⟩) R s := by
  refine' enterS a F N ?ho ?hcd ?hb ?hl ?_ ?c1 ?c2 ?c3 ?c4
  case ho => walk_at "ho"
  case hcd => k_is
  case hb => exact BindsTo.of_eq rfl
  case hl => exact locs rfl
  case c1 => exact rfl
  case c2 => exact rfl
  case c3 => exact rfl
  case c4 => decide
  intro g L' h' FG' AmS F' N'
  have Am0 := AmS.am
  obtain ⟨B', X', T', hA', hf', hk', hd', hu', hh'⟩ := AmS.am
  (try dsimp only)
  (try k_fold)
  k_steps
  refine by_code (split_spec (n := n) AmS (by k_asm) (by k_asm) hL hlen htx ?_ ?_)
  · intro he g5 h5 tk5 D vs n5 T5 K5 F5 N5 hlt hv
    have AmS5 := AmS.turn K5 T5
    obtain ⟨B5, X5, TT5, _, _, _, _, _, _⟩ := AmS5.am
    clear B' X' T' F' N'
    dsimp only
    (try k_lt hlt)
    (try k_sweep)
    k_steps
    rename _ < _ ∧ AllLt _ _ => hl9
    exact k _ _ _ _ D vs n5 _ _ (by assumption) (by assumption) (by assumption) (by assumption) hlt hl9.1 (fun _ => ⟨lit_nil, hv⟩) (fun esc h => by rw [he] at h; cases h)
  · intro esc he x5 t5 tt g5 h5 tk5 news5 F5 U5 R5 hn5
    dsimp only
    refine caught_SB (T' := "ValueError") (X := "ValueError") (KF := Mine.hd.heap_39 w.params) R5 F5 B' U5 AmS.XB AmS.TB AmS.D KtsTurn.refl (by k_is) PyProof.Rows.Boot.«ValueError» (by decide) PySem.F.isExc_ValueError PySem.F.notTuple_ValueError (by rw [isSubtype_type]; kernel_rfl) ?_
    intro h6 g6 news6 tk6 T6 F6 M6 G6 N6 B6 X6 TT6 D6
    obtain ⟨oe, ot, ws, nt, q1, q2, q3, q4, q5, q6, q7⟩ := G6
    have N7 : News g6 L' h6 ((x5, oe) :: (t5, ot) :: news) := fun p hp => by
      rcases List.mem_cons.mp hp with rfl | hp
      · exact M6 _ q1
      · rcases List.mem_cons.mp hp with rfl | hp
        · exact M6 _ q2
        · exact N6 _ (hn5 p hp)
    clear B' X' T' F' N' M6 N6
    (try k_sweep)
    k_steps
    rename News _ _ _ _ => N8
    refine PySem.P.str_of_exc_one PySem.F.excStr_ValueError ?_ ⟨oe, ws, (N8 _ (.tail _ (.head _))).1, q3, q4, q5⟩ ⟨ot, nt, (N8 _ (.tail _ (.tail _ (.head _)))).1, q6, q7⟩ ?_
    · have := hu'
      have hcl := cLine_is
      rw [Around.mark_units, hcl]
      omega
    k_steps
    rename News _ L _ _ => kN9
    rename _ < _ ∧ _ < _ ∧ _ < _ ∧ AllLt _ _ => hl9
    rename _ < _ ∧ _ < _ ∧ AllLt _ _ => hl8
    refine k _ _ _ _ _ [] 0 _ _ (by assumption) (by assumption) (by assumption) (news_two kN9) (allLt_mem hl8.2.2) hl9.1 (fun h => by rw [he] at h; cases h) (fun esc' h => ?_)
    rw [he] at h
    injection h with h
    subst h
    exact ⟨rfl, rfl⟩
end
end Mine
/-! MK -/
namespace Mine
open PySem PySem.W PySem.Calls PyProof.Rows PySem.Spec
theorem fill_mk : ∀ (w : World) (h : Heap), (Mine.hd.heap_39 w.params).In h → PySem.Challenge.rw_mq0398_01.row.prog = PySem.Challenge.rw_mq0398_01.row.prog := by
  k_fill
  intros; rfl
section
variable {w : World} {A : Around} {E : Value → Shared → Prop} {s : Shared} {h₀ : Heap} {L : Addr} {m : Str → Option Value} {news : List (Addr × Obj)}
theorem look_type {M : Model} {h : Heap} {T : String} {name : Str} {r : Option Value} (e : fastLookup T name = some r) : Looks M h (typeLookup (.type T) name) r := looks_findIn (K := []) (fun _ _ e => by cases e) e
theorem str_slot_ga : Slot "str" "__getattribute__" "object.__getattribute__" :=
  .of (owner := "object") (n := "__getattribute__") (by rw [typeLookup_type, builtinLookup_eq_fast]; kernel_rfl) (by decide +kernel) (by decide +kernel) (by decide +kernel)
    (by first | exact .inl (by decide +kernel) | exact .inr (by decide +kernel)) (by rw [isSubtype_type]; kernel_rfl)
theorem oga_entry : entryFor table "object.__getattribute__" = some Builtin.«object.__getattribute__» := entryFor_of_tree (by kernel_rfl)
theorem oga_args (a b : Value) : argsOk "object.__getattribute__" ⟨[a, b], []⟩ := by unfold argsOk; kernel_rfl
theorem mk_meth {prog : Program} {x : Str} {t : Tok} {pl : Sem Bool} {Q : Value × List Value → Shared → Prop} (h : Q (.builtin "str.maketrans", []) { s with toks := s.toks + 1 }) :
    wpAny (model prog w) A (getMethod (.str x t) (Str.ofString "maketrans") pl) Q E s := by
  have l1 : Looks (model prog w) s.heap (typeLookup (.type "str") (Str.ofString "__getattribute__")) (some (.builtin "object.__getattribute__")) := look_type (by kernel_rfl)
  have l2 : Looks (model prog w) s.heap (typeLookup (.type "str") (Str.ofString "__getattr__")) none := look_type (by kernel_rfl)
  have l3 : Looks (model prog w) s.heap (typeLookup (.type "str") (Str.ofString "maketrans")) (some (.builtin "str.maketrans")) := look_type (by kernel_rfl)
  have l4 : Looks (model prog w) s.heap (typeOf (.builtin "str.maketrans")) (.type "builtin_function_or_method") := looks_typeIn (K := []) (fun _ _ e => by cases e) (by kernel_rfl)
  unfold getMethod specialOf
  repeat (fail_if_success (with_reducible show wpAny _ _ (getAttr _ _ _) _ _ _)); first | lk
  refine wpAny_bind (wpAny_mkText (wpAny_holding (wpAny_bind (wpAny_pure (wpAny_bind (l1 _ _ _ _ (fun _ _ e => e) ?_))))))
  dsimp only
  rw [show (onTheHeap (.type "str") && Value.builtin "object.__getattribute__" == Value.builtin "object.__getattribute__") = false from rfl, if_neg (by decide)]
  refine wpAny_bind (wpAny_pure (wpAny_bind (wpAny_attempt (wpAny_holding ?_))))
  unfold callGetattribute
  rw [if_neg (by decide)]
  unfold boundAndCalled
  rw [str_slot_ga.bind]
  refine wpAny_bind (wpAny_pure ?_)
  refine wpAny_call_entry str_slot_ga rfl oga_entry ?_ (oga_args _ _)
  unfold Builtin.«object.__getattribute__»
  have l5 : Looks (model prog w) s.heap (typeLookup (.type "builtin_function_or_method") (Str.ofString "__get__")) none := look_type (by kernel_rfl)
  unfold Builtin.ObjectAttr.find Builtin.ObjectAttr.getOf specialOf
  repeat (first | lk)
  exact ⟨_, rfl, handed_on rfl (wpAny_pure h)⟩
noncomputable abbrev bmO : Obj := { cls := .type "builtin_function_or_method", data := .fields #[.builtin "dict.fromkeys", .type "dict"] }
theorem cm_slot : Slot "classmethod_descriptor" "__get__" "classmethod_descriptor.__get__" :=
  .of (owner := "classmethod_descriptor") (n := "__get__") (by rw [typeLookup_type, builtinLookup_eq_fast]; kernel_rfl) (by decide +kernel) (by decide +kernel) (by decide +kernel)
    (by first | exact .inl (by decide +kernel) | exact .inr (by decide +kernel)) (by rw [isSubtype_type]; kernel_rfl)
theorem cm_entry : entryFor table "classmethod_descriptor.__get__" = some Builtin.«classmethod_descriptor.__get__» := entryFor_of_tree (by kernel_rfl)
theorem cm_args (a b c : Value) : argsOk "classmethod_descriptor.__get__" ⟨[a, b, c], []⟩ := by unfold argsOk; kernel_rfl
theorem fk_found : findCls [] (.type "dict") (.type "type") (Str.ofString "fromkeys") = some (.get (.builtin "classmethod_descriptor.__get__") (.builtin "dict.fromkeys") .none (.type "dict")) := by kernel_rfl
theorem fk_type : typeOf (.builtin "dict.fromkeys") = pure (.type "classmethod_descriptor") := by show builtinType _ = _; rw [builtinType_eq_fast]; kernel_rfl
theorem cm_run : Builtin.«classmethod_descriptor.__get__» ⟨[.builtin "dict.fromkeys", .none, .type "dict"], []⟩ = Sem.alloc bmO (fun a => Sem.pure (Fin.done (.ret (.ref a)))) := by kernel_rfl
theorem fk_meth {prog : Program} {pl : Sem Bool} {Q : Value × List Value → Shared → Prop} (F : Fr h₀ L s.heap m) (N : News h₀ L s.heap news)
    (h : ∀ b h', Fr h₀ L h' m → News h₀ L h' ((b, bmO) :: news) → (∀ p ∈ news, p.1 < b) → Q (.ref b, []) { s with heap := h', toks := s.toks + 1 }) :
    wpAny (model prog w) A (getMethod (.type "dict") (Str.ofString "fromkeys") pl) Q E s := by
  have X : Frag.In [] s.heap := fun _ _ e => by cases e
  have hg : findIn [] (.type "type") "__getattribute__" = some (some (.builtin "type.__getattribute__")) := type_tga
  have L0 : Looks (model prog w) s.heap (typeOf (.type "dict")) (.type "type") := Looks.of_pure (by kernel_rfl)
  have LO : Looks (model prog w) s.heap (opaqueClassAbove (.type "dict")) none := Looks.of_pure (by kernel_rfl)
  unfold getMethod specialOf
  refine wpAny_bind (wpAny_bind (L0.here ((looks_findIn X hg).here ?_)))
  dsimp only
  rw [if_pos canon_tga]
  refine wpAny_bind (wpAny_mono (Q := fun v s' => Q (v, []) s') (E := E) ?_ (fun _ _ z => wpAny_pure z) fun _ _ z => z)
  refine cls_open X LO L0 hg (looks_hook X (r := none) (by rfl)) (by show subIn [] _ _ = _; rfl) fk_found ?_
  refine wpAny_bind (wpAny_holding ?_)
  refine wpAny_call_entry cm_slot (show typeOf (.builtin "dict.fromkeys") = pure (.type "classmethod_descriptor") from fk_type) cm_entry ?_ (cm_args _ _ _)
  rw [cm_run]
  refine nd_alloc ?_
  refine wpAny_pure ⟨_, rfl, wpAny_pure ?_⟩
  exact handed_on rfl (h _ _ (F.push _) (N.push F bmO) fun p hp => Heap.lt_size (N p hp).1)
end
end Mine
/-! FK -/
namespace Mine
open PySem PySem.W PySem.Calls PyProof.Rows PySem.Spec
theorem fill_fk : ∀ (w : World) (h : Heap), (Mine.hd.heap_39 w.params).In h → PySem.Challenge.rw_mq0398_01.row.prog = PySem.Challenge.rw_mq0398_01.row.prog := by
  k_fill
  intros; rfl
section
variable {w : World} {A : Around} {E : Value → Shared → Prop} {s : Shared} {h₀ : Heap} {L : Addr} {m : Str → Option Value} {news : List (Addr × Obj)}
theorem dict_typeCall0 : checkTypeCall "dict" ⟨[], []⟩ = pure () := by kernel_rfl
theorem dict_newCall0 : checkBuiltinCall "dict.__new__" ⟨[.type "dict"], []⟩ = pure () := by kernel_rfl
theorem dict_new0 : Builtin.«dict.__new__» ⟨[.type "dict"], []⟩ = Sem.alloc (dictOf [] 0) (fun a => Sem.pure (Fin.done (.ret (.ref a)))) := by kernel_rfl
theorem dict_args0 (a : Value) : argsOk "dict.__init__" ⟨[a], []⟩ := by unfold argsOk; kernel_rfl
theorem dict_make0 {prog : Program} {Q : Value → Shared → Prop} (F : Fr h₀ L s.heap m) (N : News h₀ L s.heap news)
    (h : ∀ d, Fr h₀ L (s.heap.push (dictOf [] 0)) m → News h₀ L (s.heap.push (dictOf [] 0)) ((d, dictOf [] 0) :: news) → d = s.heap.objs.size → Q (.ref d) { s with heap := s.heap.push (dictOf [] 0) }) :
    wpAny (model prog w) A (call (.type "dict") []) Q E s := by
  refine callType_codes (Q₁ := fun obj s₁ => obj = .ref s.heap.objs.size ∧ s₁ = { s with heap := s.heap.push (dictOf [] 0) }) PySem.F.kt_called_dict dict_typeCall0 PySem.F.entry_dict_init ?_ fun obj s₁ h₁ => ?_
  · refine codeAny_of_tree ?_
    show wpAny _ _ (do checkBuiltinCall "dict.__new__" ⟨[.type "dict"], []⟩; again (.builtin "dict.__new__" ⟨[.type "dict"], []⟩)) _ _ s
    refine wpAny_bind (wpAny_of_eq dict_newCall0 (wpAny_pure ⟨plainId_quiet PySem.F.kt_plain_dict_new _, codeAny_builtin PySem.F.kt_entry_dict_new ?_⟩))
    rw [dict_new0]
    refine nd_alloc ?_
    exact wpAny_pure ⟨rfl, rfl⟩
  · obtain ⟨rfl, rfl⟩ := h₁
    have hnew : (s.heap.push (dictOf [] 0)).get? s.heap.objs.size = some (dictOf [] 0) := Heap.get?_push_size _ rfl
    refine ⟨⟨_, hnew, rfl⟩, dict_args0 _, ?_⟩
    unfold Builtin.«dict.__init__»
    refine wpAny_bind ?_
    unfold Builtin.Dict.selfAndRest
    refine wpAny_bind (wpAny_notOrdered_dict ⟨_, hnew, rfl⟩ ?_)
    show wpAny _ _ (pure (s.heap.objs.size, [])) _ _ _
    refine wpAny_pure ?_
    unfold Builtin.Dict.updateCommon
    dsimp only
    refine wpAny_bind (wpAny_pure ?_)
    exact wpAny_pure ⟨rfl, h _ (F.push _) (N.push F _) rfl⟩
theorem fk_bound (v : Value) : checkBoundCall "dict.fromkeys" ⟨[.type "dict", v], []⟩ = pure () := by kernel_rfl
theorem fk_entry : entryFor table "dict.fromkeys" = some Builtin.«dict.fromkeys» := entryFor_of_tree (by kernel_rfl)
theorem fk_plain : plainId "dict.fromkeys" = true := by decide +kernel
theorem fkl_entry : entryFor table "dict.fromkeys.loop" = some Builtin.«dict.fromkeys.loop» := entryFor_of_tree (by kernel_rfl)
theorem fkl_plain : plainId "dict.fromkeys.loop" = true := by decide +kernel
theorem fr_off {wr : List Addr} {h h' : Heap} (F : Fr h₀ L h m) (hL : L ∉ wr) (hn : ∀ b ∈ wr, h₀.get? b = none) (k : ∀ b o, b ∉ wr → h.get? b = some o → h'.get? b = some o) : Fr h₀ L h' m :=
  ⟨F.ns.at' (fun o e => k L o hL e), fun b o e => k b o (fun hb => by rw [hn b hb] at e; cases e) (F.keep b o e), F.above⟩
theorem news_off {wr : List Addr} {h h' : Heap} (N : News h₀ L h news) (hn : ∀ p ∈ news, p.1 ∉ wr) (k : ∀ b o, b ∉ wr → h.get? b = some o → h'.get? b = some o) : News h₀ L h' news :=
  fun p hp => ⟨k _ _ (hn p hp) (N p hp).1, (N p hp).2⟩
theorem dof_off {prog : Program} {K : Type} [DecidableEq K] {knd : KeyKind prog w K} {wr : List Addr} {h h' : Heap} {d : Addr} {kvs : List (K × Value)} (D : h.DictOf knd d kvs) (hn : d ∉ wr) (k : ∀ b o, b ∉ wr → h.get? b = some o → h'.get? b = some o) : h'.DictOf knd d kvs :=
  let ⟨o, es, ep, ho, r⟩ := D; ⟨o, es, ep, k _ _ hn ho, r⟩
theorem fk_run {prog : Program} {b : Addr} {c : Nat} {t : Tok} {Q : Value → Shared → Prop} (hh : A.handled = none) (F : Fr h₀ L s.heap m) (N : News h₀ L s.heap news) (hb : (b, bmO) ∈ news)
    (h : ∀ D h' tk, Fr h₀ L h' m → News h₀ L h' news → h'.DictOf (strKind prog w) D [(⟨#[c]⟩, .none)] → (∀ p ∈ news, p.1 < D) → h₀.get? D = none → L < D → D < h'.objs.size → Q (.ref D) { s with heap := h', toks := tk }) :
    wpAny (model prog w) A (call (.ref b) [.str ⟨#[c]⟩ t]) Q E s := by
  refine wpAny_call (codeAny_of_tree ?_)
  show wpAny _ _ (callAny (.ref b) _) _ _ _
  refine nd_load (N _ hb).1 ?_
  show wpAny _ _ (checkBoundCall "dict.fromkeys" ⟨[.type "dict", .str ⟨#[c]⟩ t], []⟩ >>= fun _ => again (.builtin "dict.fromkeys" ⟨[.type "dict", .str ⟨#[c]⟩ t], []⟩)) _ _ _
  refine wpAny_bind (wpAny_of_eq (fk_bound _) (wpAny_pure ⟨plainId_quiet fk_plain _, codeAny_builtin fk_entry ?_⟩))
  rw [Around.under_plainId fk_plain _]
  have t1 : Looks (model prog w) s.heap (isType (.type "dict")) true := Looks.of_pure (by kernel_rfl)
  have t2 : Looks (model prog w) s.heap (isSubtype (.type "dict") (.type "dict")) true := Looks.of_pure (by rw [isSubtype_type]; kernel_rfl)
  unfold Builtin.«dict.fromkeys»
  repeat (fail_if_success (with_reducible show wpAny _ _ (PySem.call _ _ _) _ _ _)); first | lk
  refine dict_make0 F N fun d F1 N1 hd => ?_
  dsimp only
  have t3 : Looks (model prog w) (s.heap.push (dictOf [] 0)) (typeOf (.ref d)) (.type "dict") := (Looks.ld (N1 _ (.head _)).1).andThen .now
  have hD0 : (s.heap.push (dictOf [] 0)).DictOf (strKind prog w) d [] := hd ▸ Heap.DictOf.new s.heap
  have hlt : ∀ p ∈ news, p.1 < d := fun p hp => hd ▸ Heap.lt_size (N p hp).1
  have hd0 : h₀.get? d = none := (N1 _ (.head _)).2.2
  have hdL : d ≠ L := (N1 _ (.head _)).2.1
  have hLd : L < d := by rw [hd]; exact F.ns.lt
  have hsz1 : (s.heap.push (dictOf [] 0)).objs.size = d + 1 := by rw [hd]; exact Heap.size_push ..
  generalize s.heap.push (dictOf [] 0) = h1 at *
  repeat (fail_if_success (with_reducible show wpAny _ _ (pyIter _) _ _ _)); first | lk
  refine wpAny_pyIter_str fun o St W st0 => ?_
  dsimp only at st0 W ⊢
  have W1 := W A.in1 hh
  have hIL : L ∉ [h1.objs.size] := fun hm => Nat.ne_of_lt F1.ns.lt (List.mem_singleton.mp hm)
  have hI0 : ∀ b ∈ [h1.objs.size], h₀.get? b = none := fun b hb => by rw [List.mem_singleton.mp hb]; exact none_at_size (s := { s with heap := h1 }) F1
  have hId : d ∉ [h1.objs.size] := fun hm => by
    have := List.mem_singleton.mp hm
    rw [hsz1] at this
    exact absurd this (Nat.ne_of_lt (Nat.lt_succ_self d))
  have hIn : ∀ p ∈ news, p.1 ∉ [h1.objs.size] := fun p hp hm => by
    have e := List.mem_singleton.mp hm
    have := hlt p hp
    rw [e, hsz1] at this
    exact absurd this (Nat.not_lt.mpr (Nat.le_succ d))
  have N1' : News h₀ L (h1.push o) news := fun p hp => ⟨Heap.get?_push_of_some _ (N1 p (.tail _ hp)).1, (N1 p (.tail _ hp)).2⟩
  refine wpAny_pure ⟨plainId_quiet fkl_plain _, codeAny_builtin fkl_entry ?_⟩
  rw [Around.under_plainId fkl_plain _]
  show wpAny _ _ (pyNext (.ref h1.objs.size) >>= _) _ _ _
  refine wpAny_bind (W1.item 0 _ _ _ (by show 0 < 1; decide) st0 fun v h2 tk2 hv st1 hk => ?_)
  obtain ⟨c', u, hc, rfl⟩ := hv
  obtain rfl : c = c' := by simpa using hc
  dsimp only at hk ⊢
  have F2 := fr_off (F1.push o) hIL hI0 hk
  have N2 := news_off N1' hIn hk
  have hD2 := dof_off (hD0.push o) hId hk
  have t4 : Looks (model prog w) h2 (typeOf (.ref d)) (.type "dict") := by
    obtain ⟨ob, es, ep, ho, hc, _⟩ := hD2
    exact (Looks.ld ho).andThen (by rw [hc.1]; exact .now)
  repeat (fail_if_success (with_reducible show wpAny _ _ (dictSet _ _ _) _ _ _)); first | lk
  refine wpAny_dictSet_pairs (knd := strKind prog w) (k := ⟨#[c]⟩) (beq_self_eq_true (⟨#[c]⟩ : Str)) hD2 (fun h3 hD3 hs3 => ?_) (by simp [sizeLine])
  have F3 : Fr h₀ L h3 m := F2.change hs3 hdL hd0
  have N3 : News h₀ L h3 news := fun p hp => ⟨(hs3.2 _ (Nat.ne_of_lt (hlt p hp))).trans (N2 p hp).1, (N2 p hp).2⟩
  have st3 : St 1 h3 := W1.frame 1 h2 h3 st1 fun b hb o' e => (hs3.2 b (fun z => hId (z ▸ hb))).trans e
  refine wpAny_pure ⟨plainId_quiet fkl_plain _, codeAny_builtin fkl_entry ?_⟩
  rw [Around.under_plainId fkl_plain _]
  show wpAny _ _ (pyNext (.ref h1.objs.size) >>= _) _ _ _
  refine wpAny_bind (W1.done _ _ _ st3 fun h4 tk4 hk4 => ?_)
  dsimp only at hk4 ⊢
  have hD4 := dof_off hD3 hId hk4
  refine wpAny_pure (h d h4 tk4 (fr_off F3 hIL hI0 hk4) (news_off N3 hIn hk4) hD4 hlt hd0 hLd ?_)
  obtain ⟨ob, _, _, ho, _⟩ := hD4
  exact Heap.lt_size ho
end
end Mine
/-! MT -/
namespace Mine
open PySem PySem.W PySem.Calls PyProof.Rows PySem.Spec
section
variable {w : World} {A : Around} {E : Value → Shared → Prop} {s : Shared} {h₀ : Heap} {L : Addr} {m : Str → Option Value} {news : List (Addr × Obj)}
theorem mt_check (D : Addr) : checkBuiltinCall "str.maketrans" ⟨[.ref D], []⟩ = pure () := by kernel_rfl
theorem mt_entry : entryFor table "str.maketrans" = some Builtin.«str.maketrans» := entryFor_of_tree (by kernel_rfl)
theorem mt_plain : plainId "str.maketrans" = true := by decide +kernel
theorem mt_run {prog : Program} {D : Addr} {c : Nat} {Q : Value → Shared → Prop} (hh : A.handled = none) (F : Fr h₀ L s.heap m) (N : News h₀ L s.heap news) (hD : s.heap.DictOf (PySem.strKind prog w) D [(⟨#[c]⟩, .none)]) (hlt : D < s.heap.objs.size) (hsys : (D == sysModules) = false)
    (h : ∀ T h' tk, Fr h₀ L h' m → News h₀ L h' news → h'.DictOf (PySem.intKind prog w) T [((c : Int), .none)] → (∀ p ∈ news, p.1 < T) → h₀.get? T = none → L < T → Q (.ref T) { s with heap := h', toks := tk }) :
    wpAny (model prog w) A (call (.builtin "str.maketrans") [.ref D]) Q E s := by
  refine wpAny_call (codeAny_call_builtin mt_plain mt_entry (wpAny_of_eq (mt_check D) ?_))
  obtain ⟨ob, es, ep, ho, hc, hd, hk, hp, hn⟩ := id hD
  have t1 : Looks (model prog w) s.heap (typeOf (.ref D)) (.type "dict") := (Looks.ld ho).andThen (by rw [hc.1]; exact .now)
  unfold Builtin.«str.maketrans»
  repeat (fail_if_success (with_reducible show wpAny _ _ (newDict _) _ _ _)); first | lk
  unfold newDict
  refine nd_alloc ?_
  have F1 := F.push emptyDict
  have hT0 : (s.heap.push emptyDict).DictOf (PySem.intKind prog w) s.heap.objs.size [] := Heap.DictOf.new s.heap
  have hD1 := hD.push emptyDict
  obtain ⟨ob, es, ep, ho, hc, hd, hk, hp, hn⟩ := id hD1
  obtain ⟨hs, u, rfl⟩ : ∃ hs u, es = #[⟨hs, .str ⟨#[c]⟩ u, .none⟩] := by
    obtain ⟨l⟩ := es
    cases hp with
    | @cons e kv es kvs h1 h2 h3 =>
      cases h3
      obtain ⟨eh, ek, ev⟩ := e
      obtain ⟨u, rfl⟩ := Value.isStrOf_shape h1
      dsimp only at h2
      subst h2
      exact ⟨eh, u, rfl⟩
  obtain ⟨ocls, odata⟩ := ob
  obtain ⟨hc1, hc2⟩ := hc
  dsimp only at hc1 hd
  subst hc1
  subst hd
  have t2 : Looks (model prog w) (s.heap.push emptyDict) (dictEntries D) #[⟨hs, .str ⟨#[c]⟩ u, .none⟩] := (Looks.ld ho).andThen .now
  have t3 : Looks (model prog w) (s.heap.push emptyDict) (notTheModulesDict "str.maketrans" D) () := by
    unfold notTheModulesDict
    rw [hsys]
    exact .now
  repeat (fail_if_success (with_reducible show wpAny _ _ (dictSet _ _ _) _ _ _)); first | lk
  show wpAny _ _ (dictSet s.heap.objs.size (.int (c : Int) s.toks) .none) _ _ _
  have hlt' : ∀ p ∈ news, p.1 < s.heap.objs.size := fun p hp => Heap.lt_size (N p hp).1
  have hTL : s.heap.objs.size ≠ L := Nat.ne_of_gt F.ns.lt
  have hT0' : h₀.get? s.heap.objs.size = none := none_at_size F
  refine wpAny_dictSet_pairs (knd := intKind prog w) (k := (c : Int)) (beq_self_eq_true (c : Int)) hT0 (fun h3 hD3 hs3 => ?_) (by simp [sizeLine])
  have F3 : Fr h₀ L h3 m := F1.change hs3 hTL hT0'
  have N3 : News h₀ L h3 news := fun p hp => ⟨(hs3.2 _ (Nat.ne_of_lt (hlt' p hp))).trans (Heap.get?_push_of_some _ (N p hp).1), (N p hp).2⟩
  repeat lk
  exact h _ h3 _ F3 N3 hD3 hlt' hT0' F.ns.lt
end
end Mine
/-! TL -/
namespace Mine
open PySem PySem.W PySem.Calls PyProof.Rows PySem.Spec
section
variable {w : World} {A : Around} {E : Value → Shared → Prop} {s : Shared} {h₀ : Heap} {L : Addr} {m : Str → Option Value} {news : List (Addr × Obj)}
theorem tl_keep {prog : Program} {c : Nat} {T : Addr} {Q : Builtin.Str.Mapped → Shared → Prop} (hh : A.handled = none) (hsys : (T == sysModules) = false) (hD : s.heap.DictOf (intKind prog w) T [((44 : Int), .none)]) (hc : c ≠ 44)
    (h : ∀ h' tk, (∀ b o, s.heap.get? b = some o → h'.get? b = some o) → Q .keep { s with heap := h', toks := tk }) :
    wpAny (model prog w) A (Builtin.Str.tableLookup (.ref T) c) Q E s := by
  unfold Builtin.Str.tableLookup
  refine wpAny_bind (wpAny_attempt ?_)
  refine wpAny_bind (wpAny_mkInt ?_)
  refine wpAny_getItem_missing_of (knd := intKind prog w) (s := { s with toks := s.toks + 1 }) (intKind_is _ _ (c : Int) _) hsys hh (Heap.DictOf.mapOf hD) (by simp [valueAt]; omega) fun h' e hx => ?_
  obtain ⟨ob, t, ho, hcls, _⟩ := hx.there
  have t1 : Looks (model prog w) h' (isInstance (.ref e) (.type "LookupError")) true := by
    unfold isInstance
    exact ((Looks.ld ho).andThen (by rw [hcls]; exact .now)).andThen (Looks.of_pure (by rw [isSubtype_type]; kernel_rfl))
  repeat lk
  exact h _ _ hx.keeps
theorem tr_check (x : Str) (t : Tok) (T : Addr) : checkBuiltinCall "str.translate" ⟨[.str x t, .ref T], []⟩ = pure () := by kernel_rfl
theorem tr_entry : entryFor table "str.translate" = some Builtin.«str.translate» := entryFor_of_tree (by kernel_rfl)
theorem tr_plain : plainId "str.translate" = true := by decide +kernel
theorem tl_44 : ∀ c ∈ wcL, c ≠ 44 := by decide +kernel
theorem tl_len : wcL.length ≤ 1000 := by decide +kernel
theorem tl_fold (l : List Nat) (acc : Array Nat) : (l.map (fun c => (⟨#[c]⟩ : Str))).foldl (fun acc p => acc ++ p.cps) acc = acc ++ l.toArray := by
  induction l generalizing acc with
  | nil => simp
  | cons a l ih => simp only [List.map_cons, List.foldl_cons, ih]; simp
theorem tr_run {prog : Program} {T : Addr} {t : Tok} {Q : Value → Shared → Prop} (hh : A.handled = none) (F : Fr h₀ L s.heap m) (N : News h₀ L s.heap news) (hsys : (T == sysModules) = false) (hD : s.heap.DictOf (intKind prog w) T [((44 : Int), .none)])
    (h : ∀ h' u tk, Fr h₀ L h' m → News h₀ L h' news → Q (.str (S wcL) u) { s with heap := h', toks := tk }) :
    wpAny (model prog w) A (call (.builtin "str.translate") [.str (S wcL) t, .ref T]) Q E s := by
  refine wpAny_call (codeAny_call_builtin tr_plain tr_entry (wpAny_of_eq (tr_check _ _ _) ?_))
  unfold Builtin.«str.translate»
  repeat (fail_if_success (with_reducible show wpAny _ _ (forIn _ _ _) _ _ _)); first | lk
  have hfast : (wcL.toArray.all fun x => decide (x < 128)) = false := by decide +kernel
  rw [show ((S wcL).cps.all fun x => decide (x < 128)) = false from hfast]
  refine wpAny_forIn_array' _ (fun rest b s' => ∃ done, done ++ rest = wcL ∧ b = ((done.map (fun c => (⟨#[c]⟩ : Str))).reverse, done.length, false, [], false) ∧ ∃ h' tk, s' = { s with heap := h', toks := tk } ∧ ∀ b o, s.heap.get? b = some o → h'.get? b = some o) _ ?_ ?_ wcL.toArray ([], 0, false, [], false) ?_
  · rintro x rest b s' ⟨done, hdn, rfl, h', tk, rfl, hk⟩
    have hx : x ≠ 44 := tl_44 x (by rw [← hdn]; simp)
    have hlen : done.length ≤ 1000 := by have := tl_len; rw [← hdn] at this; simp at this; omega
    have htl : Builtin.Str.tooLong done.length = false := by simp [Builtin.Str.tooLong, sizeLine]; omega
    dsimp only
    rw [if_neg (by rw [htl]; decide), if_neg (by decide), if_neg (by decide)]
    have hD' : h'.DictOf (intKind prog w) T [((44 : Int), .none)] := by
      obtain ⟨o, es, ep, ho, r⟩ := hD
      exact ⟨o, es, ep, hk _ _ ho, r⟩
    refine wpAny_bind (tl_keep (s := { s with heap := h', toks := tk }) hh hsys hD' hx fun h2 tk2 hk2 => ?_)
    dsimp only
    refine wpAny_pure ⟨done ++ [x], by simp [← hdn], by simp, h2, tk2, rfl, fun b o e => hk2 b o (hk b o e)⟩
  · rintro b s' ⟨done, hdn, rfl, h', tk, rfl, hk⟩
    obtain rfl : done = wcL := by simpa using hdn
    dsimp only
    have htl : Builtin.Str.tooLong wcL.length = false := by have := tl_len; simp [Builtin.Str.tooLong, sizeLine]; omega
    rw [if_neg (by rw [htl]; decide)]
    have hr : (⟨((wcL.map (fun c => (⟨#[c]⟩ : Str))).reverse.reverse).foldl (fun acc p => acc ++ p.cps) #[]⟩ : Str) = S wcL := by
      rw [List.reverse_reverse, tl_fold]; simp [S]
    rw [hr]
    unfold retStr
    refine wpAny_bind (wpAny_mkStr ?_ (by have := tl_len; simp [sizeLine, S, Str.length]; omega))
    have F' : Fr h₀ L h' m := fr_off (wr := []) F (by simp) (by simp) (fun b o _ e => hk b o e)
    have N' : News h₀ L h' news := news_off (wr := []) N (by simp) (fun b o _ e => hk b o e)
    unfold ret
    exact wpAny_pure (h h' _ _ F' N')
  · rw [List.toList_toArray]
    exact ⟨[], rfl, rfl, s.heap, s.toks, rfl, fun _ _ e => e⟩
end
end Mine
/-! IM -/
namespace Mine
open PySem PySem.W PySem.Calls PyProof.Rows PySem.Spec
theorem zz_IM {P : Nat → Prop} (h : ∃ x, P x) : ∃ x, P x := by first | (w_top off; walk1; fail) | exact h
theorem fill_im : ∀ (w : World) (h : Heap), (Mine.hd.heap_39 w.params).In h → PySem.Challenge.rw_mq0398_01.row.prog = PySem.Challenge.rw_mq0398_01.row.prog := by
  k_fill
  intros; rfl
section
variable {w : World} {mg mb : Str → Option Value} {mean : ExcName → Option Value} {n : Nat} {A A₀ : Around} {base h₀ : Heap} {env : Env} {outer : List Env} {L : Addr} {s : Shared} {m : Str → Option Value} {news : List (Addr × Obj)}
theorem lit_comma' : Str.ofString "," = (⟨#[44]⟩ : Str) := by kernel_rfl
theorem sys_ne {a b c : Addr} (h1 : b < c) (h2 : a < b) : (c == sysModules) = false := by
  have h1' : (show Nat from b) < (show Nat from c) := h1
  have h2' : (show Nat from a) < (show Nat from b) := h2
  have e : (show Nat from c) ≠ 1 := Nat.ne_of_gt (Nat.lt_of_le_of_lt (Nat.succ_le_of_lt (Nat.lt_of_le_of_lt (Nat.zero_le _) h2')) h1')
  exact beq_eq_false_iff_ne.mpr e
theorem tr_slot : Slot "str" "translate" "str.translate" :=
  .of (owner := "str") (n := "translate") (by rw [typeLookup_type, builtinLookup_eq_fast]; kernel_rfl) (by decide +kernel) (by decide +kernel) (by decide +kernel)
    (by first | exact .inl (by decide +kernel) | exact .inr (by decide +kernel)) (by rw [isSubtype_type]; kernel_rfl)
theorem tr_type : typeOf (.builtin "str.translate") = pure (.type "method_descriptor") := by show builtinType _ = _; rw [builtinType_eq_fast]; kernel_rfl
theorem tr_meth {prog : Program} {w : World} {A : Around} {E : Value → Shared → Prop} {s : Shared} {x : Str} {t : Tok} {pl : Sem Bool} {Q : Value × List Value → Shared → Prop} (h : Q (.builtin "str.translate", [.str x t]) s) : wpAny (model prog w) A (getMethod (.str x t) (Str.ofString "translate") pl) Q E s := by
  with_reducible exact GM.of (.str x t) (typeIs_str _ _ _) tr_slot tr_type GM.noRef h
theorem tr_any {prog : Program} {w : World} {A : Around} {E : Value → Shared → Prop} {s : Shared} {h₀ : Heap} {L : Addr} {m : Str → Option Value} {news : List (Addr × Obj)} {x : Str} {T : Addr} {t : Tok} {Q : Value → Shared → Prop} (hx : x = S wcL) (hh : A.handled = none) (F : Fr h₀ L s.heap m) (N : News h₀ L s.heap news) (hsys : (T == sysModules) = false) (hD : s.heap.DictOf (intKind prog w) T [((44 : Int), .none)])
    (h : ∀ h' u tk, Fr h₀ L h' m → News h₀ L h' news → Q (.str (S wcL) u) { s with heap := h', toks := tk }) :
    wpAny (model prog w) A (call (.builtin "str.translate") [.str x t, .ref T]) Q E s := by
  subst hx
  exact tr_run hh F N hsys hD h
theorem news_add {h₀ h : Heap} {L b : Addr} {o : Obj} {news : List (Addr × Obj)} (N : News h₀ L h news) (e : h.get? b = some o) (hL : b ≠ L) (hn : h₀.get? b = none) : News h₀ L h ((b, o) :: news) := fun p hp => by
  cases hp with
  | head => exact ⟨e, hL, hn⟩
  | tail _ hp => exact N p hp
theorem news_reL {g : Heap} {L : Addr} {h : Heap} {t b pc a b' c d e f : Addr × Obj} {l : List (Addr × Obj)} (N : News g L h (t :: b :: pc :: a :: b' :: c :: d :: e :: f :: l)) : News g L h (e :: f :: c :: d :: b' :: a :: pc :: l) := news_sub N fun p hp => by
  simp only [List.mem_cons] at hp ⊢
  rcases hp with h | h | h | h | h | h | h | h <;> repeat first | exact h | exact Or.inl h | refine Or.inr ?_
theorem keeps_B {M : Model} {b : Addr} (h : Heap) (X : h.get? b = some bmO) : ∃ k, (k = Keeper.frame ∨ k = Keeper.machine ∨ k = Keeper.boundFrame) ∧ Looks M h (keeperOf (.ref b)) k :=
  ⟨.machine, .inr (.inl rfl), (Looks.ld (part := none) X).andThen .now⟩
theorem callWith_B {M : Model} {A : Around} {E : Value → Shared → Prop} {s : Shared} {env : Env} {pos : Pos} {first : List Value} {Q : Value → Shared → Prop} {b : Addr} {e : Expr} {rest : List Expr} (h : wpAny M A (spliced (backTo pos (starEach (e :: rest) env))) (fun vs s₁ => s₁.heap.get? b = some bmO ∧ wpAny M A (call (.ref b) (first ++ vs)) Q E s₁) E s)
    (he : starEach (e :: rest) env = (false, eval e env) :: starEach rest env := by rfl) (hplain : (backTo pos (starEach rest env)).any (·.1) = false := by rfl) :
    wpAny M A (callWith pos (.ref b) first (backTo pos (starEach (e :: rest) env)) []) Q E s := by
  rw [he] at h ⊢
  exact callWith_of (by show ((false || (backTo pos (starEach rest env)).any (·.1)) || false) = false; rw [hplain]; rfl) keeps_B (evalArgs_plain h)
local macro_rules | `(tactic| walk_at "call ref") => fresh (callAt "592")
local macro_rules | `(tactic| walk_at "call type:collections.deque") => fresh (par [ruleH "dq_make" "aa_" "d' h' F' N' l1" false, lt "l1", tri (own "sweep" [])])
local macro_rules | `(tactic| walk_at "getAttr ref") => fresh (ruleD "get_F" "aaniiiisrh_" "tk'" false)
local macro_rules | `(tactic| walk_at "setAttr ref") => fresh (ruleD "set_F" "aaanriiiisfl_" "h' es' n' tk' F' N' D'" true)

theorem init_L {R : Result → Shared → Prop} {x dx : Addr} {tx : List Nat} {t tc : Tok} (a : Amb w mg mb mean (n + 4) A A₀ base h₀ env outer L) (F : Fr h₀ L s.heap m) (N : News h₀ L s.heap ((x, instObj 727 dx) :: (dx, dictOf [] 0) :: news))
    (hlt : dx < x) (hfz : ∀ p ∈ news, p.1 < dx)
    (k : ∀ y dy pb fs pc es' ne' ei' ni' h' tk', Fr h₀ L h' m → News h₀ L h' ((x, instObj 727 dx) :: (dx, dictOf es' ne') :: (y, instObj 592 dy) :: (dy, dictOf ei' ni') :: (pb, dqO 0 []) :: (fs, dqO 0 []) :: (pc, dqO 0 []) :: news) →
      RawD y pb fs [35] wcL [44] false (some pc) es' → RawIo tx ei' → x < dy ∧ dy < y ∧ y < pb ∧ pb < fs ∧ fs < pc → R (.ok (.ret .none)) { s with heap := h', toks := tk' }) :
    codeAny (model Challenge.rw_mq0398_01.row.prog w) A (.call (.ref 651) ⟨[.ref x, .str (S tx) t], [(Str.ofString "posix", .bool true), (Str.ofString "punctuation_chars", .str (Str.ofString ",") tc)]⟩) R s := by
  replace hlt := ltN hlt
  refine' enter a F N ?ho ?hcd ?hb ?hl ?_ ?c1 ?c2 ?c3 ?c4
  case ho => walk_at "ho"
  case hcd => k_is
  case hb => exact kp_binds (a.X.keeps F.keep) (fun _ => rfl)
  case hl => exact locs rfl
  case c1 => exact rfl
  case c2 => exact rfl
  case c3 => exact rfl
  case c4 => decide
  intro g L' h' FG' Am F' N'
  have Am0 := Am
  obtain ⟨B', X', T', hA', hf', hk', hd', hu', hh'⟩ := Am
  (try dsimp only)
  refine no_raise ?_
  refine opaqueQ fun Q9 kQ9 => ?_
  have D0 := Full.nil
  (try k_fold)
  k_steps
  refine by_code (sio_make Am0 (by k_asm) (by k_asm) ?_)
  intro y dy nw ei' ni' h2 tk2 F2 N2 hil hib hip hic hir l1 l2
  replace N2 := news_sub N2 (b := (y, instObj 592 dy) :: (dy, dictOf ei' ni') :: (x, instObj 727 dx) :: (dx, dictOf [] 0) :: news) (fun p hp => by
    simp only [List.mem_cons, List.mem_append] at hp ⊢
    rcases hp with h | h | h | h | h
    · exact .inl h
    · exact .inr (.inl h)
    · exact .inr (.inr (.inr (.inl h)))
    · exact .inr (.inr (.inr (.inr (.inl h))))
    · exact .inr (.inr (.inr (.inr (.inr h)))))
  replace l1 : ∀ p ∈ (x, instObj 727 dx) :: (dx, dictOf [] 0) :: news, p.1 < dy := fun p hp => l1 p (List.mem_append_right _ hp)
  replace l2 := ltN l2
  have l1' := l1
  (try k_lt l1')
  dsimp only
  (try k_sweep)
  k_steps
  refine mk_meth ?_
  k_steps
  refine fk_meth (by assumption) (by assumption) fun b hb Fb Nb lb => ?_
  dsimp only
  (try k_lt lb)
  (try k_sweep)
  k_steps
  refine callWith_B ?_
  k_steps
  · exact (Nb _ (.head _)).1
  rw [lit_comma']
  refine fk_run (by assumption) Fb Nb (.head _) fun D h3 tk3 F3 N3 D3 ltD nD LD szD => ?_
  dsimp only
  have hDs : (D == sysModules) = false := by
    exact sys_ne (ltD (y, instObj 592 dy) (.tail _ (.tail _ (.tail _ (.tail _ (.head _)))))) l2
  (try k_sweep)
  k_steps
  refine mt_run (by assumption) F3 N3 D3 szD hDs fun T h4 tk4 F4 N4 D4 ltT nT LT => ?_
  dsimp only
  have hTs : (T == sysModules) = false := sys_ne (ltT (y, instObj 592 dy) (.tail _ (.tail _ (.tail _ (.tail _ (.head _)))))) l2
  obtain ⟨oT, eT, pT, hoT, hT⟩ := D4
  replace N4 := news_add N4 hoT (Nat.ne_of_gt LT) nT
  (try k_lt ltT)
  (try k_sweep)
  k_steps
  refine tr_meth ?_
  k_steps
  rename News _ _ _ _ => N5
  refine tr_any (by kernel_rfl) (by assumption) (by assumption) N5 hTs ⟨oT, eT, pT, (N5 _ (.head _)).1, hT⟩ fun h6 u6 tk6 F6 N6 => ?_
  dsimp only
  clear N5
  (try k_sweep)
  k_steps
  rename News _ _ _ _ => N9
  rename Full _ _ => D9
  rename y < _ ∧ dy < _ ∧ x < _ ∧ dx < _ ∧ AllLt _ _ => hp1
  rename _ < _ ∧ y < _ ∧ dy < _ ∧ x < _ ∧ dx < _ ∧ AllLt _ _ => hp2
  rename _ < _ ∧ _ < _ ∧ y < _ ∧ dy < _ ∧ x < _ ∧ dx < _ ∧ AllLt _ _ => hp3
  refine kQ9 _ _ ?_
  refine leaveK_ (by assumption) N9 (fun F1 N1 => k y dy _ _ _ _ _ ei' ni' _ _ F1 (news_reL N1) ?_ ⟨hil, hib, hip, hic, hir⟩ ⟨l1 _ (.head _), l2, hp1.1, hp2.1, hp3.1⟩)
  exact { len := Nat.le_trans D9.len (Nat.le_of_ble_eq_true rfl), instream := (D9.get _).trans rfl, posix := (D9.get _).trans rfl, eof := (D9.get _).trans rfl, com := ⟨_, by rw [D9.get, ← lit_com]; rfl⟩, wc := ⟨_, (D9.get _).trans rfl⟩, ws := ⟨_, by rw [D9.get, ← lit_ws]; rfl⟩, wsp := (D9.get _).trans rfl, quotes := ⟨_, by rw [D9.get, ← lit_quo]; rfl⟩,
            escape := ⟨_, by rw [D9.get, ← lit_bs]; rfl⟩, escq := ⟨_, by rw [D9.get, ← lit_q]; rfl⟩, state := ⟨_, by rw [D9.get, ← lit_sp]; rfl⟩, pushback := (D9.get _).trans rfl, lineno := ⟨_, _, (D9.get _).trans rfl⟩, debug := ⟨_, (D9.get _).trans rfl⟩, token := ⟨_, by rw [D9.get, ← lit_nil]; rfl⟩,
            filestack := (D9.get _).trans rfl, source := (D9.get _).trans rfl, pun := ⟨_, by rw [D9.get, ← lit_comma]; rfl⟩, pcs := fun _ e => by cases e; exact (D9.get _).trans rfl, rt := (D9.get _).trans rfl, gt := (D9.get _).trans rfl }
end
end Mine
/-! GX -/
namespace Mine
open PySem PySem.W PySem.Calls PyProof.Rows PySem.Spec
theorem turn_no {lx : Bool} {st : Sta} {tok : List Nat} {q : Bool} {est st' : Sta} {tok' : List Nat} {q' : Bool} (h : turn lx st tok q est none = .brk st' tok' q') : st' = .no := by
  unfold turn at h
  cases st <;> simp at h <;> exact h.1.symm
theorem Lx.run0 {lx : Bool} {st : Sta} {tok : List Nat} {q : Bool} {est : Sta} {inp : List Nat} {ts : List (List Nat)} {e : Option Bool} (h : Lx lx st tok q est inp ts e) :
    ts = [] → e = none → ∃ tok' q', runTok lx st tok q est inp = .done .no tok' q' [] ∧ emit tok' q' = false := by
  induction h with
  | go h k ih => intro h1 h2; unfold runTok; rw [h]; exact ih h1 h2
  | brk h hm k _ => intro h1; cases h1
  | back h hm k _ => intro h1; cases h1
  | last h hm k _ => intro h1; cases h1
  | stop h hm => intro _ _; have := turn_no h; subst this; exact ⟨_, _, by unfold runTok; rw [h], hm⟩
  | fail h => intro _ h2; cases h2
theorem lx_end {lx : Bool} : Lx lx .no [] false .sp [] [] none := .stop (st' := .no) (tok' := []) (q' := false) rfl rfl

noncomputable def cX (w : World) (g : Heap) (L : Addr) (s : Shared) (x dx y dy pc pb fs : Addr) (frz : List (Addr × Obj)) (tx : List Nat) : LC :=
  { w := w, g := g, L := L, s0 := s, lx := true, x := x, dx := dx, io := y, dio := dy, pc := pc, pb := pb, fs := fs, frz := frz, tx := tx }
section
variable {w : World} {mg mb : Str → Option Value} {mean : ExcName → Option Value} {n : Nat} {A A₀ : Around} {base h₀ g : Heap} {env : Env} {outer : List Env} {L : Addr} {s s' : Shared} {m : Str → Option Value} {news frz frz' : List (Addr × Obj)} {x dx y dy pc pb fs : Addr} {tx : List Nat}
theorem LexD.cx {es : List DictEntry} {st : Sta} {tok : List Nat} (D : LexD (cX w g L s x dx y dy pc pb fs frz tx) es st tok) : LexD (cX w g L s' x dx y dy pc pb fs frz' tx) es st tok :=
  ⟨D.1, D.2, D.3, D.4, D.5, D.6, D.7, D.8, D.9, D.10, D.11, D.12, D.13, D.14, D.15, D.16, D.17, D.18, D.19, D.20, D.21, D.22⟩
theorem IoD.cx {es : List DictEntry} {pos : Nat} (D : IoD (cX w g L s x dx y dy pc pb fs frz tx) es pos) : IoD (cX w g L s' x dx y dy pc pb fs frz' tx) es pos := ⟨D.1, D.2, D.3, D.4, D.5, D.6, D.7⟩
theorem RawD.lexL {es : List DictEntry} (D : RawD y pb fs [35] wcL [44] false (some pc) es) : LexD (cX w g L s x dx y dy pc pb fs frz tx) es .sp [] where
  len := by have := D.len; omega
  instream := D.instream
  posix := D.posix
  eof := D.eof
  com := D.com
  wc := D.wc
  ws := D.ws
  wsp := D.wsp
  quotes := D.quotes
  escape := D.escape
  escq := D.escq
  state := D.state
  pushback := D.pushback
  lineno := D.lineno
  debug := D.debug
  token := D.token
  filestack := D.filestack
  source := D.source
  pun := D.pun
  pcs := fun _ => D.pcs _ rfl
  rt := D.rt
  gt := D.gt
noncomputable abbrev ledX (x dx y dy pc pb fs : Addr) (es : List DictEntry) (ne : Nat) (ei : List DictEntry) (ni : Nat) (kk : Int) (tq : List Value) (frz : List (Addr × Obj)) : List (Addr × Obj) :=
  (x, instObj 727 dx) :: (dx, dictOf es ne) :: (y, instObj 592 dy) :: (dy, dictOf ei ni) :: (pc, dqO kk tq) :: (pb, dqO 0 []) :: (fs, dqO 0 []) :: frz
theorem okX (X : (Mine.hd.heap_39 w.params).In g) (h0 : dx < x) (h1 : x < dy) (h2 : dy < y) (h3 : y < pb) (h4 : pb < fs) (h5 : fs < pc) (hfz : ∀ p ∈ frz, p.1 ≠ dx ∧ p.1 ≠ dy ∧ p.1 ≠ pc) :
    (cX w g L s x dx y dy pc pb fs ((pb, dqO 0 []) :: (fs, dqO 0 []) :: frz) tx).Ok := by
  have e0 : (show Nat from dx) < (show Nat from x) := h0
  have e1 : (show Nat from x) < (show Nat from dy) := h1
  have e2 : (show Nat from dy) < (show Nat from y) := h2
  have e3 : (show Nat from y) < (show Nat from pb) := h3
  have e4 : (show Nat from pb) < (show Nat from fs) := h4
  have e5 : (show Nat from fs) < (show Nat from pc) := h5
  exact
  { X := X, d1 := Nat.ne_of_gt e0, d2 := Nat.ne_of_lt e1, d3 := Nat.ne_of_gt (Nat.lt_trans e0 (Nat.lt_trans e1 e2)), d4 := Nat.ne_of_gt e2, d5 := Nat.ne_of_lt (Nat.lt_trans e0 e1),
    d6 := Nat.ne_of_gt (Nat.lt_trans e0 (Nat.lt_trans e1 (Nat.lt_trans e2 (Nat.lt_trans e3 (Nat.lt_trans e4 e5))))),
    d7 := Nat.ne_of_gt (Nat.lt_trans e2 (Nat.lt_trans e3 (Nat.lt_trans e4 e5))),
    d8 := Nat.ne_of_gt (Nat.lt_trans e1 (Nat.lt_trans e2 (Nat.lt_trans e3 (Nat.lt_trans e4 e5)))),
    d9 := Nat.ne_of_gt (Nat.lt_trans e3 (Nat.lt_trans e4 e5))
    f1 := fun p hp => by
      rcases List.mem_cons.mp hp with rfl | hp
      · exact Nat.ne_of_gt (Nat.lt_trans e0 (Nat.lt_trans e1 (Nat.lt_trans e2 e3)))
      · rcases List.mem_cons.mp hp with rfl | hp
        · exact Nat.ne_of_gt (Nat.lt_trans e0 (Nat.lt_trans e1 (Nat.lt_trans e2 (Nat.lt_trans e3 e4))))
        · exact (hfz p hp).1
    f2 := fun p hp => by
      rcases List.mem_cons.mp hp with rfl | hp
      · exact Nat.ne_of_gt (Nat.lt_trans e2 e3)
      · rcases List.mem_cons.mp hp with rfl | hp
        · exact Nat.ne_of_gt (Nat.lt_trans e2 (Nat.lt_trans e3 e4))
        · exact (hfz p hp).2.1
    f3 := fun p hp => by
      rcases List.mem_cons.mp hp with rfl | hp
      · exact Nat.ne_of_lt (Nat.lt_trans e4 e5)
      · rcases List.mem_cons.mp hp with rfl | hp
        · exact Nat.ne_of_lt e5
        · exact (hfz p hp).2.2
    pbIn := ⟨0, .head _⟩, fsIn := ⟨0, .tail _ (.head _)⟩ }

/-- get_token, told of what the lexer gives in all -/
theorem gtX {R : Result → Shared → Prop} {st : Sta} {pos : Nat} {pbk : List Nat} {es ei : List DictEntry} {ne ni : Nat} {kk : Int} {tq : List Value} {rest : List (List Nat)} {e : Option Bool}
    (h0 : dx < x) (h1 : x < dy) (h2 : dy < y) (h3 : y < pb) (h4 : pb < fs) (h5 : fs < pc) (hfz : ∀ p ∈ frz, p.1 ≠ dx ∧ p.1 ≠ dy ∧ p.1 ≠ pc)
    (a : Amb w mg mb mean 6 A A₀ base g env outer L) (F : Fr g L s.heap m) (N : News g L s.heap (ledX x dx y dy pc pb fs es ne ei ni kk tq frz))
    (D : LexD (cX w g L s' x dx y dy pc pb fs [] tx) es st []) (I : IoD (cX w g L s' x dx y dy pc pb fs [] tx) ei pos) (T : All2 (fun v n => ∃ t, v = .str (S [n]) t) tq pbk)
    (hst : st = .no ∨ st = .sp) (hpb : pbk.length ≤ 1) (hrun : Lx true st [] false .sp (pbk ++ tx.drop pos) rest e)
    (k1 : ∀ tok ts t h' tk' es' ne' ei' ni' kk' tq' st' pos' pbk', rest = tok :: ts → Fr g L h' m → News g L h' (ledX x dx y dy pc pb fs es' ne' ei' ni' kk' tq' frz) → LexD (cX w g L s' x dx y dy pc pb fs [] tx) es' st' [] → IoD (cX w g L s' x dx y dy pc pb fs [] tx) ei' pos' →
      All2 (fun v n => ∃ t, v = .str (S [n]) t) tq' pbk' → (st' = .no ∨ st' = .sp) → pbk'.length ≤ 1 → Lx true st' [] false .sp (pbk' ++ tx.drop pos') ts e → R (.ok (.ret (.str (S tok) t))) { s with heap := h', toks := tk' })
    (k0 : ∀ h' tk' es' ne' ei' ni' kk' tq' st' pos' pbk', rest = [] → e = none → Fr g L h' m → News g L h' (ledX x dx y dy pc pb fs es' ne' ei' ni' kk' tq' frz) → LexD (cX w g L s' x dx y dy pc pb fs [] tx) es' st' [] → IoD (cX w g L s' x dx y dy pc pb fs [] tx) ei' pos' →
      All2 (fun v n => ∃ t, v = .str (S [n]) t) tq' pbk' → (st' = .no ∨ st' = .sp) → pbk'.length ≤ 1 → Lx true st' [] false .sp (pbk' ++ tx.drop pos') [] none → R (.ok (.ret .none)) { s with heap := h', toks := tk' })
    (ke : ∀ esc x' t tt g₂ h' tk' es' ne' ei' ni' kk' tq', rest = [] → e = some esc → Fr g L g₂ m → g₂.UpToSlots h' → RaisedS base g₂ (env :: outer) x' (.type "ValueError") t [.str (faultOf esc) tt] (ledX x dx y dy pc pb fs es' ne' ei' ni' kk' tq' frz) h' →
      R (.error (.ref x')) { s with heap := h', toks := tk' }) :
    codeAny (model Challenge.rw_mq0398_01.row.prog w) A (.call (.ref 688) ⟨[.ref x], []⟩) R s := by
  have o := okX (L := L) (s := s) (tx := tx) a.X h0 h1 h2 h3 h4 h5 hfz
  refine gt_spec (c := cX w g L s x dx y dy pc pb fs ((pb, dqO 0 []) :: (fs, dqO 0 []) :: frz) tx) o h2 a F N D.cx I.cx T hst hpb (fun h => nomatch h) rfl (lx_nbad hrun) ?_ ?_
  · intro v h' tk' es' ne' ei' ni' kk' tq' st' tok' q pos' pbk' hr hv1 hv0 hp _ F' N' D' I' T'
    replace hr : runTok true st [] false .sp (pbk ++ tx.drop pos) = .done st' tok' q (pbk' ++ tx.drop pos') := hr
    rcases hrun.run with ⟨st2, tok2, q2, inp2, ts2, r2, em2, e2, k2⟩ | ⟨st2, tok2, q2, r2, em2, e2, e3⟩ | ⟨x2, r2, e2, e3⟩
    · rw [r2] at hr
      injection hr with q1 q2 q3 q4
      subst q1 q2 q3
      obtain ⟨t, rfl⟩ := hv1 em2
      refine k1 _ ts2 t h' tk' es' ne' ei' ni' kk' tq' _ pos' pbk' e2 F' N' D'.cx I'.cx T' (run_st r2) hp ?_
      rw [← show inp2 = pbk' ++ tx.drop pos' from q4]
      exact k2
    · obtain ⟨tok3, q3, r3, em3⟩ := hrun.run0 e2 e3
      rw [r3] at hr
      injection hr with q1 q2 q3 q4
      subst q1 q2 q3
      obtain rfl := hv0 em3
      refine k0 h' tk' es' ne' ei' ni' kk' tq' _ pos' pbk' e2 e3 F' N' D'.cx I'.cx T' (.inl rfl) hp ?_
      rw [← show [] = pbk' ++ tx.drop pos' from q4]
      exact lx_end
    · rw [r2] at hr
      cases hr
  · intro esc x' t tt g₂ h' tk' es' ne' ei' ni' kk' tq' hr F' U' R'
    replace hr : runTok true st [] false .sp (pbk ++ tx.drop pos) = .fail esc := hr
    rcases hrun.run with ⟨st2, tok2, q2, inp2, ts2, r2, em2, e2, k2⟩ | ⟨st2, tok2, q2, r2, em2, e2, e3⟩ | ⟨x2, r2, e2, e3⟩
    · rw [r2] at hr; cases hr
    · rw [r2] at hr; cases hr
    · rw [r2] at hr
      injection hr with hr
      subst hr
      exact ke _ x' t tt g₂ h' tk' es' ne' ei' ni' kk' tq' e2 e3 F' U' R'
end
section
variable {prog : Program} {w : World} {A : Around} {E : Value → Shared → Prop} {s : Shared} {env : Env} {h₀ : Heap} {x : Str} {body : List Stmt} {Q : Flow → Shared → Prop}
theorem iter_range {r : Addr} {a₀ b₀ : Int} {t₀ u₀ v₀ : Tok} {n : Nat} {m : Str → Option Value} {news : List (Addr × Obj)} (J : Nat → (Str → Option Value) → List (Addr × Obj) → Prop)
    (hh : A.handled = none) (hr : IsRange s.heap r a₀ b₀ 1 t₀ u₀ v₀) (hsmall : Builtin.Range.small a₀ b₀ 1 = true) (hn : Builtin.Range.rangeSize a₀ b₀ 1 = (n : Int)) (F : Fr h₀ env.locals s.heap m) (N : News h₀ env.locals s.heap news) (h0 : J 0 m news)
    (turn : ∀ I i v m₁ news₁ own h tk, i < n → (∃ t, v = .int (a₀ + (i : Int)) t) → J i m₁ news₁ → (∀ p ∈ news₁, p.1 ∉ [I]) → (∀ p ∈ own, p.1 ∈ [I]) → (∀ b ∈ [I], (∃ o, (b, o) ∈ own) ∨ ∃ o, h₀.get? b = some o) →
      Fr h₀ env.locals ({ s with heap := h, toks := tk } : Shared).heap (fun y => if y = x then some v else m₁ y) → News h₀ env.locals ({ s with heap := h, toks := tk } : Shared).heap (news₁ ++ own) →
      wpAny (model prog w) A (execs body env) (StepJ h₀ env.locals [I] own (J (i + 1)) ({ s with heap := h, toks := tk } : Shared) Q) E ({ s with heap := h, toks := tk } : Shared))
    (done : ∀ h' tk m' news', Fr h₀ env.locals h' m' → News h₀ env.locals h' news' → J n m' news' → Q .next { s with heap := h', toks := tk }) :
    wpAny (model prog w) A (pyIter (.ref r)) (fun it s₂ => LoopAtV prog w A h₀ env x body Q E it s₂) E s := by
  refine wpAny_pyIter_range hr hsmall ?_
  have W : Walks prog w A s.heap.objs.size [s.heap.objs.size] [s.heap.objs.size] n (fun i v => i < n ∧ ∃ t, v = .int (a₀ + i * 1) t)
      (fun i h => IsRangeIter h s.heap.objs.size (a₀ + (i : Nat) * 1) ((n : Int) - (i : Nat)) 1) := (Walks.range hh _ a₀ 1 n).bound
  have hI : h₀.get? s.heap.objs.size = none := none_at_size F
  refine loopAt (s := { s with heap := s.heap.push _ }) (news := news) W ?_ hI (by show IsRangeIter _ _ _ _ _; rw [hn]; simpa using Heap.get?_push_size _ rfl) (F.push _)
    (fun p hp => ⟨Heap.get?_push_of_some _ (N p hp).1, (N p hp).2⟩) ?_ ?_ J h0 ?_ ?_
  · intro hm
    exact absurd F.ns.lt (List.mem_singleton.mp hm ▸ Nat.lt_irrefl _)
  · intro p hp hm
    exact absurd (Heap.lt_size (N p hp).1) (List.mem_singleton.mp hm ▸ Nat.lt_irrefl _)
  · intro i h h1 b hb
    rw [List.mem_singleton.mp hb]
    exact ⟨_, h1⟩
  · rintro i v m₁ news₁ own h tk hi ⟨_, t, rfl⟩ hJ ho hw hf F₁ N₁
    exact turn _ i _ m₁ news₁ own h tk hi ⟨t, by rw [Int.mul_one]⟩ hJ ho hw hf F₁ N₁
  · intro h' tk m' news' F' N' _ hJ
    exact done h' tk m' news' F' N' hJ
end
end Mine
/-! TX -/
namespace Mine
open PySem PySem.W PySem.Calls PyProof.Rows PySem.Spec
theorem zz_TX {P : Nat → Prop} (h : ∃ x, P x) : ∃ x, P x := by first | (w_top off; walk1; fail) | exact h
theorem fill_tx : ∀ (w : World) (h : Heap), (Mine.hd.heap_39 w.params).In h → PySem.Challenge.rw_mq0398_01.row.prog = PySem.Challenge.rw_mq0398_01.row.prog := by
  k_fill
  intros; rfl
section
variable {w : World} {mg mb : Str → Option Value} {mean : ExcName → Option Value} {n : Nat} {A A₀ : Around} {base h₀ : Heap} {cn : Str} {cs : Scope} {ca : Addr} {ccd : Value} {outer : List Env} {L : Addr} {s : Shared} {m : Str → Option Value} {news : List (Addr × Obj)}
local macro_rules | `(tactic| walk_at "call ref") => fresh (par [shown "PySem.call (PySem.Value.ref 727) _ _", dflt (par [lineW true "call_cls" "aaaiii_" "x' d' h' F' N' l1 l2" false, go "at_code"])])
local macro_rules | `(tactic| walk_at "call ref") => fresh (callAt "688")
local macro_rules | `(tactic| walk_at "call type:str") => fresh (goH "at_tree")

theorem size_ok (k : Nat) : Builtin.Range.rangeSize 0 ((k : Int) + 1) 1 = ((k + 1 : Nat) : Int) := by
  unfold Builtin.Range.rangeSize
  rw [if_pos (by decide), if_pos (by omega)]
  simp
theorem small_ok {k : Nat} (h : k ≤ 1000) : Builtin.Range.small 0 ((k : Int) + 1) 1 = true := by
  unfold Builtin.Range.small
  rw [size_ok]
  simp [Builtin.Range.rangeFitsLong]
  omega
local macro_rules | `(tactic| walk_at "getMethod ref") => fresh (par [own "here" [], shown "PySem.getMethod (PySem.Value.ref _) (PySem.Str.ofString \"get_token\") _", dflt (lineW true "method_inst" "aaniiis_" "" false)])

inductive ToldJ (C : LC) (x dx y dy pc pb fs : Addr) (news : List (Addr × Obj)) (l0 : Addr) (tx : List Nat) (ts : List (List Nat)) (e : Option Bool) (i : Nat) (m₁ : Str → Option Value) (news₁ : List (Addr × Obj)) : Prop
  | mk (vs : List Value) (nn : Nat) (es : List DictEntry) (ne : Nat) (ei : List DictEntry) (ni : Nat) (kk : Int) (tq : List Value) (st : Sta) (pos : Nat) (pbk : List Nat) (dn rest : List (List Nat)) (e0 : news₁ = ledX x dx y dy pc pb fs es ne ei ni kk tq ((l0, W.listOf (List.toArray vs) nn) :: news))
    (D : LexD C es st []) (I : IoD C ei pos) (T : All2 (fun v n => ∃ t, v = .str (Mine.S [n]) t) tq pbk) (h1 : st = .no ∨ st = .sp) (h2 : pbk.length ≤ 1) (h3 : Lx true st [] false .sp (pbk ++ tx.drop pos) rest e) (h4 : All2 (fun v t => ∃ tk, v = .str (Mine.S t) tk) vs dn) (h5 : ts = dn ++ rest) (h6 : dn.length = i)
    (h7 : m₁ (Str.ofString "lexer") = some (.ref x)) (h8 : m₁ (Str.ofString "told") = some (.ref l0)) : ToldJ C x dx y dy pc pb fs news l0 tx ts e i m₁ news₁
theorem told_lexer {R : Result → Shared → Prop} {tx : List Nat} {t : Tok} {ts : List (List Nat)} {e : Option Bool} (a : AmbS w mg mb mean (n + 21) A A₀ base h₀ cn cs ca ccd outer L) (F : Fr h₀ L s.heap m) (N : News h₀ L s.heap news)
    (hL : Lx true .sp [] false .sp tx ts e) (hlen : ts.length ≤ tx.length) (htx : tx.length ≤ 1000)
    (k : ∀ h₀' h' tk' x D vs n' flt tt, KtsTurn (outer.filterMap (·.frame)) h₀ h₀' → Below A₀ base outer h₀' → Fr h₀' L h' m → News h₀' L h' ((x, tupO [.ref D, .str flt tt]) :: (D, W.listOf vs.toArray n') :: news) → (∀ p ∈ news, p.1 < D) → D < x →
      All2 (fun v t => ∃ tk, v = .str (Mine.S t) tk) vs ts → (e = none → flt = S []) → (∀ esc, e = some esc → flt = faultOf esc) → R (.ok (.ret (.ref x))) { s with heap := h', toks := tk' }) :
    codeAny (model Challenge.rw_mq0398_01.row.prog w) A (.call (.ref 795) ⟨[.str (S tx) t], []⟩) R s := by
  refine' enterS a F N ?ho ?hcd ?hb ?hl ?_ ?c1 ?c2 ?c3 ?c4
  case ho => walk_at "ho"
  case hcd => k_is
  case hb => exact BindsTo.of_eq rfl
  case hl => exact locs rfl
  case c1 => exact rfl
  case c2 => exact rfl
  case c3 => exact rfl
  case c4 => decide
  intro g L' h' FG' AmS F' N'
  have Am0 := AmS.am
  obtain ⟨B', X', T', hA', hf', hk', hd', hu', hh'⟩ := AmS.am
  (try dsimp only)
  refine opaqueQ fun Q9 hQ9 => ?_
  (try k_fold)
  k_steps
  rename_i x dx _ F1 N1 l1 l2
  refine init_L (n := n + 15) Am0.under (by k_asm) (by k_asm) l2 l1 ?_
  intro y dy pb fs pc es1 ne1 ei ni h2 tk2 F2 N2 D I hord
  refine ⟨rfl, ?_⟩
  clear F1 N1
  have hszE : Str.length (S tx) = tx.length := by simp [Str.length, S]
  have hsz : Str.length (S tx) ≤ 1000 := by simpa [Str.length, S] using htx
  dsimp only
  (try k_sweep)
  k_steps
  rename IsRange _ _ _ _ _ _ _ _ => hR0
  rename Fr _ _ _ _ => F0
  rename News _ _ _ _ => N0
  rename_i l0 _ hl0 _ _ _ _ _ _ _ _ _
  obtain ⟨o1, o2, o3, o4, o5⟩ := hord
  refine iter_range (n := tx.length + 1) (news := ledX x dx y dy pc pb fs es1 ne1 ei ni 0 [] ((l0, W.listOf #[] 0) :: news)) (ToldJ (cX w g L' s x dx y dy pc pb fs [] tx) x dx y dy pc pb fs news l0 tx ts e) hh' hR0 ?_ ?_ F0 (news_sub N0 ?_) ?_ ?_ ?_
  · rw [hszE]; exact small_ok htx
  · rw [hszE]; exact size_ok _
  · intro p hp
    simp only [ledX, List.mem_cons] at hp ⊢
    rcases hp with h | h | h | h | h | h | h | h | h <;> repeat first | exact h | exact Or.inl h | refine Or.inr ?_
  · exact ⟨[], 0, es1, ne1, ei, ni, 0, [], .sp, 0, [], [], ts, rfl, D.lexL, I.io htx, .nil, .inr rfl, Nat.zero_le _, hL, .nil, rfl, rfl, rfl, rfl⟩
  · rintro I' i v m₁ news₁ own h1 tk1 hi ⟨tv, rfl⟩ ⟨vs, nn, es, ne, ei', ni', kk, tq, st, pos, pbk, dn, rest, rfl, D1, I1, T1, hst, hpb, hrun, hall, hts, hdl, hlx, htold⟩ hoff hown hfp F₁ N₁
    rw [kn2 hlx htold] at F₁
    refine opaqueQ fun Q8 hQ8 => ?_
    refine opaqueE fun E8 hE8 => ?_
    have hgt := D1.gt
    have hwsp := D1.wsp
    have hz := D1.len
    have hvl : vs.length ≤ 1000 := by
      have := hall.length
      have : ts.length = dn.length + rest.length := by rw [hts, List.length_append]
      omega
    simp only [ledX, List.cons_append] at N₁
    dsimp only at F₁ N₁ ⊢
    clear hlx htold N0 F0
    (try k_fold)
    k_steps
    have hfz : ∀ p ∈ (l0, W.listOf vs.toArray nn) :: (news ++ own), p.1 ≠ dx ∧ p.1 ≠ dy ∧ p.1 ≠ pc := by
      have hx0 := hoff (dx, dictOf es ne) (.tail _ (.head _))
      have hx1 := hoff (dy, dictOf ei' ni') (.tail _ (.tail _ (.tail _ (.head _))))
      have hx2 := hoff (pc, dqO kk tq) (.tail _ (.tail _ (.tail _ (.tail _ (.head _)))))
      have e0 := Nat.lt_trans l2 o1
      have e1 := Nat.lt_trans e0 (Nat.lt_trans o2 (Nat.lt_trans o3 (Nat.lt_trans o4 o5)))
      intro p hp
      rcases List.mem_cons.mp hp with rfl | hp
      · exact ⟨Nat.ne_of_gt hl0.2.1, Nat.ne_of_gt hl0.2.2.2.1, Nat.ne_of_gt hl0.2.2.2.2.2.2.1⟩
      · rcases List.mem_append.mp hp with hp | hp
        · have := l1 p hp
          exact ⟨Nat.ne_of_lt this, Nat.ne_of_lt (Nat.lt_trans this e0), Nat.ne_of_lt (Nat.lt_trans this e1)⟩
        · exact ⟨fun q => hx0 (q ▸ hown p hp), fun q => hx1 (q ▸ hown p hp), fun q => hx2 (q ▸ hown p hp)⟩
    have hne : ∀ p ∈ news ++ own, p.1 ≠ l0 := by
      have hx0 := hoff (l0, W.listOf vs.toArray nn) (.tail _ (.tail _ (.tail _ (.tail _ (.tail _ (.tail _ (.tail _ (.head _))))))))
      intro p hp
      rcases List.mem_append.mp hp with hp | hp
      · exact Nat.ne_of_lt (Nat.lt_trans (l1 p hp) hl0.2.1)
      · exact fun q => hx0 (q ▸ hown p hp)
    refine by_code (gtX l2 o1 o2 o3 o4 o5 hfz (Am0.less (by omega)) (by k_asm) N₁ D1 I1 T1 hst hpb hrun ?_ ?_ ?_)
    · intro tok ts' tt h3 tk3 es3 ne3 ei3 ni3 kk3 tq3 st3 pos3 pbk3 hr3 F3 N3 D3 I3 T3 hst3 hpb3 hrun3
      dsimp only
      clear F₁ N₁
      have hz := D3.len
      simp only [ledX] at N3
      (try k_sweep)
      k_steps
      rename Fr _ _ _ _ => F9
      rename News _ _ _ _ => N9
      rw [List.push_toArray] at N9
      refine hQ8 _ _ ?_
      unfold StepJ
      dsimp only
      refine ⟨_, _, _, ledX x dx y dy pc pb fs es3 ne3 ei3 ni3 kk3 tq3 ((l0, W.listOf (vs ++ [Value.str (Mine.S tok) tt]).toArray (nn + 1)) :: news), rfl, F9, news_sub N9 ?_, ?_, vs ++ [Value.str (Mine.S tok) tt], nn + 1, es3, ne3, ei3, ni3, kk3, tq3, st3, pos3, pbk3, dn ++ [tok], ts', rfl, D3, I3, T3, hst3, hpb3, hrun3, hall.append (.cons ⟨_, rfl⟩ .nil), by rw [hts, hr3, List.append_assoc]; rfl, by simp [hdl], rfl, rfl⟩
      · intro p hp
        simp only [ledX, List.cons_append, List.mem_cons] at hp ⊢
        rcases hp with h | h | h | h | h | h | h | h | h <;> repeat first | exact h | exact Or.inl h | refine Or.inr ?_
      · exact off_map hoff
    · intro h3 tk3 es3 ne3 ei3 ni3 kk3 tq3 st3 pos3 pbk3 hr3 he3 F3 N3 D3 I3 T3 hst3 hpb3 hrun3
      dsimp only
      clear F₁ N₁
      have hz := D3.len
      have hgt := D3.gt
      simp only [ledX] at N3
      (try k_sweep)
      k_steps
      refine by_code (gtX l2 o1 o2 o3 o4 o5 hfz (Am0.less (by omega)) (by k_asm) (by k_asm) D3 I3 T3 hst3 hpb3 hrun3 ?_ ?_ ?_)
      · intro tok ts' tt h4 tk4 es4 ne4 ei4 ni4 kk4 tq4 st4 pos4 pbk4 hr4
        cases hr4
      · intro h4 tk4 es4 ne4 ei4 ni4 kk4 tq4 st4 pos4 pbk4 _ _ F4 N4 D4 I4 T4 hst4 hpb4 hrun4
        dsimp only
        simp only [ledX] at N4
        (try k_sweep)
        k_steps
        refine hQ8 _ _ ?_
        unfold StepJ
        dsimp only
        refine hQ9 _ _ ?_
        (try dsimp only)
        k_steps
        rename News _ L _ _ => kN9
        rename _ < _ ∧ _ < _ ∧ _ < _ ∧ _ < _ ∧ _ < _ ∧ _ < _ ∧ _ < _ ∧ l0 < _ ∧ AllLt _ _ => hq9
        refine k _ _ _ _ l0 vs nn (Str.ofString "") tk4 (by assumption) (by assumption) (by assumption) (news_sub kN9 ?_) (fun p hp => Nat.lt_trans (l1 p hp) hl0.2.1) hq9.2.2.2.2.2.2.2.1 ?_ (fun _ => lit_nil) (fun esc h => by rw [he3] at h; cases h)
        · intro p hp
          simp only [List.mem_cons, List.mem_append] at hp ⊢
          rcases hp with h | h | h
          · exact .inl h
          · exact .inr (.inr (.inr (.inr (.inr (.inr (.inr (.inr (.inl h))))))))
          · exact .inr (.inr (.inr (.inr (.inr (.inr (.inr (.inr (.inr (.inl h)))))))))
        · rw [hts, hr3, List.append_nil]; exact hall
      · intro esc x5 t5 tt g5 h5 tk5 es4 ne4 ei4 ni4 kk4 tq4 _ he4
        cases he4
    · intro esc x5 t5 tt g5 h5 tk5 es3 ne3 ei3 ni3 kk3 tq3 hr3 he3 F5 U5 R5
      dsimp only
      refine hE8 _ _ ?_
      (try dsimp only)
      refine caught_SB (T' := "ValueError") (X := "ValueError") (KF := Mine.hd.heap_39 w.params) R5 F5 B' U5 AmS.XB AmS.TB AmS.D KtsTurn.refl (by k_is) PyProof.Rows.Boot.«ValueError» (by decide) PySem.F.isExc_ValueError PySem.F.notTuple_ValueError (by rw [isSubtype_type]; kernel_rfl) ?_
      intro h6 g6 news6 tk6 T6 F6 M6 G6 N6 B6 X6 TT6 D6
      obtain ⟨oe, ot, ws, nt, q1, q2, q3, q4, q5, q6, q7⟩ := G6
      have N7 : News g6 L' h6 ((x5, oe) :: (t5, ot) :: (l0, W.listOf vs.toArray nn) :: news) := fun p hp => by
        rcases List.mem_cons.mp hp with rfl | hp
        · exact M6 _ q1
        · rcases List.mem_cons.mp hp with rfl | hp
          · exact M6 _ q2
          · refine N6 _ (.tail _ (.tail _ (.tail _ (.tail _ (.tail _ (.tail _ (.tail _ ?_)))))))
            rcases List.mem_cons.mp hp with rfl | hp
            · exact .head _
            · exact .tail _ (List.mem_append_left _ hp)
      clear B' X' T' M6 N6 F₁ N₁
      (try k_sweep)
      k_steps
      rename News _ _ _ _ => N8
      unfold AtTree
      refine PySem.P.str_of_exc_one PySem.F.excStr_ValueError ?_ ⟨oe, ws, (N8 _ (.head _)).1, q3, q4, q5⟩ ⟨ot, nt, (N8 _ (.tail _ (.head _))).1, q6, q7⟩ ?_
      · have := hu'
        have hcl := cLine_is
        rw [Around.mark_units, hcl]
        omega
      k_steps
      refine hQ9 _ _ ?_
      (try dsimp only)
      k_steps
      rename News _ L _ _ => kN9
      rename _ < _ ∧ _ < _ ∧ l0 < _ ∧ AllLt _ _ => hq9
      refine k _ _ _ _ l0 vs nn (faultOf esc) tt (by assumption) (by assumption) (by assumption) (news_sub kN9 ?_) (fun p hp => Nat.lt_trans (l1 p hp) hl0.2.1) hq9.2.2.1 ?_ (fun h => by rw [he3] at h; cases h) (fun esc' h => ?_)
      · intro p hp
        simp only [List.mem_cons] at hp ⊢
        rcases hp with h | h | h
        · exact .inl h
        · exact .inr (.inr (.inr (.inl h)))
        · exact .inr (.inr (.inr (.inr h)))
      · rw [hts, hr3, List.append_nil]; exact hall
      · rw [he3] at h
        injection h with h
        rw [h]
  · rintro h1 tk1 m1 nw1 F1 N1 ⟨vs, nn, es, ne, ei', ni', kk, tq, st, pos, pbk, dn, rest, rfl, D1, I1, T1, hst, hpb, hrun, hall, hts, hdl, hlx, htold⟩
    have : ts.length = dn.length + rest.length := by rw [hts, List.length_append]
    omega
end
end Mine
/-! PH -/
namespace Mine
open PySem PySem.W PySem.Calls PyProof.Rows PySem.Spec
theorem zz_PH {P : Nat → Prop} (h : ∃ x, P x) : ∃ x, P x := by first | (w_top off; walk1; fail) | exact h
theorem fill_ph : ∀ (w : World) (h : Heap), (Mine.hd.heap_39 w.params).In h → PySem.Challenge.rw_mq0398_01.row.prog = PySem.Challenge.rw_mq0398_01.row.prog := by
  k_fill
  intros; rfl
section
variable {prog : Program} {w : World} {A : Around} {E : Value → Shared → Prop} {s : Shared} {env : Env} {h₀ : Heap} {x : Str} {body : List Stmt} {Q : Flow → Shared → Prop}
theorem iter_str {tx : List Nat} {t : Tok} {m : Str → Option Value} {news : List (Addr × Obj)} (J : Nat → (Str → Option Value) → List (Addr × Obj) → Prop)
    (hh : A.handled = none) (F : Fr h₀ env.locals s.heap m) (N : News h₀ env.locals s.heap news) (h0 : J 0 m news)
    (turn : ∀ I i c t m₁ news₁ own h tk, tx[i]? = some c → J i m₁ news₁ → (∀ p ∈ news₁, p.1 ∉ [I]) → (∀ p ∈ own, p.1 ∈ [I]) → (∀ b ∈ [I], (∃ o, (b, o) ∈ own) ∨ ∃ o, h₀.get? b = some o) →
      Fr h₀ env.locals ({ s with heap := h, toks := tk } : Shared).heap (fun y => if y = x then some (.str (S [c]) t) else m₁ y) → News h₀ env.locals ({ s with heap := h, toks := tk } : Shared).heap (news₁ ++ own) →
      wpAny (model prog w) A (execs body env) (StepJ h₀ env.locals [I] own (J (i + 1)) ({ s with heap := h, toks := tk } : Shared) Q) E ({ s with heap := h, toks := tk } : Shared))
    (done : ∀ h' tk m' news', Fr h₀ env.locals h' m' → News h₀ env.locals h' news' → J tx.length m' news' → Q .next { s with heap := h', toks := tk }) :
    wpAny (model prog w) A (pyIter (.str (S tx) t)) (fun it s₂ => LoopAtV prog w A h₀ env x body Q E it s₂) E s := by
  have hI : h₀.get? s.heap.objs.size = none := none_at_size F
  have key : ∀ (o : Obj) (St : Nat → Heap → Prop), Walks prog w A s.heap.objs.size [s.heap.objs.size] [s.heap.objs.size] (S tx).cps.size (SignAt (S tx)) St → St 0 (s.heap.push o) → (∀ i h, St i h → ∃ o, h.get? s.heap.objs.size = some o) →
      LoopAtV prog w A h₀ env x body Q E (.ref s.heap.objs.size) { s with heap := s.heap.push o } := by
    intro o St W st0 al
    refine loopAt (s := { s with heap := s.heap.push _ }) (news := news) (Walks.bound W) ?_ hI st0 (F.push _)
      (fun p hp => ⟨Heap.get?_push_of_some _ (N p hp).1, (N p hp).2⟩) ?_ ?_ J h0 ?_ ?_
    · intro hm
      exact absurd F.ns.lt (List.mem_singleton.mp hm ▸ Nat.lt_irrefl _)
    · intro p hp hm
      exact absurd (Heap.lt_size (N p hp).1) (List.mem_singleton.mp hm ▸ Nat.lt_irrefl _)
    · intro i h st b hb
      rw [List.mem_singleton.mp hb]
      exact al i h st
    · rintro i v m₁ news₁ own h tk hi ⟨hi', c, u, hc, rfl⟩ hJ ho hw hf F₁ N₁
      exact turn _ i c u m₁ news₁ own h tk (by simpa [S] using hc) hJ ho hw hf F₁ N₁
    · intro h' tk m' news' F' N' _ hJ
      exact done h' tk m' news' F' N' (by simpa [S] using hJ)
  cases ha : (S tx).cps.all (· < 128)
  · exact wpAny_pyIter_wide ha (key _ _ (Walks.strWide hh _ _ t) ⟨_, Heap.get?_push_size _ rfl, rfl, rfl⟩ fun i h ⟨o, e, _⟩ => ⟨o, e⟩)
  · exact wpAny_pyIter_ascii ha (key _ _ (Walks.strAscii hh _ _ t) ⟨_, Heap.get?_push_size _ rfl, rfl, rfl⟩ fun i h ⟨o, e, _⟩ => ⟨o, e⟩)
end
section
variable {w : World} {mg mb : Str → Option Value} {mean : ExcName → Option Value} {n : Nat} {A A₀ : Around} {base h₀ : Heap} {env : Env} {outer : List Env} {L : Addr} {s : Shared} {m : Str → Option Value} {news : List (Addr × Obj)}
local macro_rules | `(tactic| walk_at "exec For") => fresh (ruleN "for_stop" "arr_cp" "" false)
local macro_rules | `(tactic| walk_at "call builtin:list.append") => fresh (ruleH "app_L" "aauo_" "h' F' N'" true)
theorem comp_rest {A : Around} {elt : Expr} {x : Str} {scope : Scope} {cl : List (Str × Addr)} {S : List (Addr × Obj) → Prop} {its : List Value} {G : Nat → Value → Prop} {Fin : List Value → List (Addr × Obj) → Prop} {prog : Program} {env : Env} (hS : S news)
    (turn : ∀ i v I oI C oC D m₂ ys h tk (E' : Value → Shared → Prop), its[i]? = some v → LCg.NsObj oC m₂ → m₂ x = some v → Fr h₀ L h m → News h₀ L h ((I, oI) :: (C, oC) :: (D, LCg.lst ys) :: news) → LCg.Off3 I C D news → ((@Ne Nat I C) ∧ (@Ne Nat I D) ∧ (@Ne Nat C D)) →
      wpAny (model prog w) A (eval elt (compEnvC scope cl C env)) (fun y s₂ => ∃ h' tk', s₂ = { s with heap := h', toks := tk' } ∧ Fr h₀ L h' m ∧ News h₀ L h' ((I, oI) :: (C, oC) :: (D, LCg.lst ys) :: news) ∧ G i y) E' { s with heap := h, toks := tk })
    (fin : ∀ ys, ys.length = its.length → (∀ i y, ys[i]? = some y → G i y) → Fin ys news) :
    LCg.CompRest prog w A h₀ L m env elt x scope cl s S (fun i v => its.toArray[i]? = some v) Fin its.toArray.size 0 [] news := by
  have key : ∀ (j i : Nat) (ys : List Value), i + j = its.length → ys.length = i → (∀ i y, ys[i]? = some y → G i y) → LCg.CompRest prog w A h₀ L m env elt x scope cl s S (fun i v => its.toArray[i]? = some v) Fin j i ys news := by
    intro j
    induction j with
    | zero =>
      intro i ys hi hl hg
      exact LCg.CompRest.zero (fin ys (by omega) hg)
    | succ j ih =>
      intro i ys hi hl hg
      refine LCg.CompRest.succ ?_
      intro v I oI C oC D m₂ h tk E' hv hC hx F N off ne
      refine wpAny_mono (turn i v I oI C oC D m₂ ys h tk E' (by simpa using hv) hC hx F N off ne) (fun y s₂ hq => ?_) fun _ _ e => e
      obtain ⟨h', tk', e, F', N', hy⟩ := hq
      refine ⟨h', tk', news, e, F', N', off, hS, ih (i + 1) (ys ++ [y]) (by omega) (by simp [hl]) fun i' y' h => ?_⟩
      rcases Nat.lt_or_ge i' ys.length with hlt | hge
      · rw [List.getElem?_append_left hlt] at h; exact hg i' y' h
      · rw [List.getElem?_append_right hge] at h
        have h2 : i' = ys.length := by
          have := (List.getElem?_eq_some_iff.mp h).1
          simp at this
          omega
        subst h2
        simp at h
        rw [← h, hl]
        exact hy
  rw [List.size_toArray]
  exact key _ 0 [] (by omega) rfl (fun _ _ h => by simp at h)
theorem all2_get {α β : Type} {R : α → β → Prop} : ∀ {xs : List α} {ys : List β}, All2 R xs ys → ∀ {i : Nat} {x : α}, xs[i]? = some x → ∃ y, ys[i]? = some y ∧ R x y
  | [], [], .nil, i, x, h => by simp at h
  | a :: xs, b :: ys, .cons h r, i, x, e => by
    cases i with
    | zero => simp at e; subst e; exact ⟨b, rfl, h⟩
    | succ i => obtain ⟨y, h1, h2⟩ := all2_get r (i := i) (x := x) (by simpa using e); exact ⟨y, by simpa using h1, h2⟩
theorem all2_mk {α β : Type} {R : α → β → Prop} : ∀ {xs : List α} {ys : List β}, xs.length = ys.length → (∀ (i : Nat) (x : α), xs[i]? = some x → ∃ y, ys[i]? = some y ∧ R x y) → All2 R xs ys
  | [], [], _, _ => .nil
  | [], _ :: _, h, _ => by simp at h
  | _ :: _, [], h, _ => by simp at h
  | a :: xs, b :: ys, h, k => by
    obtain ⟨y, h1, h2⟩ := k 0 a rfl
    simp at h1
    subst h1
    exact .cons h2 (all2_mk (by simpa using h) fun i x e => by obtain ⟨y, h1, h2⟩ := k (i + 1) x (by simpa using e); exact ⟨y, by simpa using h1, h2⟩)
theorem off1_mem {D : Addr} : ∀ {l : List (Addr × Obj)}, LCg.Off1 D l → ∀ p ∈ l, p.1 ≠ D
  | [], _, _, h => nomatch h
  | _ :: _, x, p, h => by
    rcases List.mem_cons.mp h with rfl | h
    · exact x.1
    · exact off1_mem x.2 p h
theorem ps_len : ∀ (tx : List Nat) {s : PS} {n : Nat}, (∀ p ∈ s.res, p.length ≤ n) → s.part.length ≤ n → (∀ p ∈ (tx.foldl pStep s).res, p.length ≤ n + tx.length) ∧ (tx.foldl pStep s).part.length ≤ n + tx.length
  | [], s, n, h1, h2 => ⟨h1, h2⟩
  | c :: tx, s, n, h1, h2 => by
    have key : (∀ p ∈ (pStep s c).res, p.length ≤ n + 1) ∧ (pStep s c).part.length ≤ n + 1 := by
      have h1' : ∀ p ∈ s.res, p.length ≤ n + 1 := fun p hp => Nat.le_succ_of_le (h1 p hp)
      unfold pStep
      repeat' split
      all_goals refine ⟨?_, ?_⟩
      all_goals first
        | exact h1'
        | (simp; done)
        | (simp; omega)
        | omega
        | (intro p hp; rcases List.mem_append.mp hp with hp | hp; exact h1' p hp; rw [List.mem_singleton.mp hp]; omega)
    have ih := ps_len tx key.1 key.2
    rw [List.foldl_cons, List.length_cons]
    exact ⟨fun p hp => by have := ih.1 p hp; omega, by have := ih.2; omega⟩
noncomputable def AtC {α : Type} (M : Model) (A : Around) (t : Sem α) (Q : α → Shared → Prop) (E : Value → Shared → Prop) (s : Shared) : Prop := wpAny M A t Q E s
theorem at_c {α : Type} {M : Model} {A : Around} {t : Sem α} {Q : α → Shared → Prop} {E : Value → Shared → Prop} {s : Shared} (h : AtC M A t Q E s) : wpAny M A t Q E s := h
local macro_rules | `(tactic| walk_at "eval ListComp") => fresh (go "at_c")
theorem q44 {c : Nat} : (S [c] == Str.ofString ",") = decide (c = 44) := by rw [lit_comma, S_beq]; simp
theorem q34 {c : Nat} : (S [c] == Str.ofString "\"") = decide (c = 34) := by rw [show Str.ofString "\"" = S [34] from by decide +kernel, S_beq]; simp
theorem q92 {c : Nat} : (S [c] == Str.ofString "\\") = decide (c = 92) := by rw [lit_bs, S_beq]; simp
theorem kn4 {m : Str → Option Value} {a b c d : Str} {x y z u : Value} (ha : m a = some x) (hb : m b = some y) (hc : m c = some z) (hd : m d = some u) : m = kn [(a, x), (b, y), (c, z), (d, u)] m :=
  kn_eq fun p hp => by
    rcases List.mem_cons.mp hp with rfl | hp
    · exact ha
    · rcases List.mem_cons.mp hp with rfl | hp
      · exact hb
      · rcases List.mem_cons.mp hp with rfl | hp
        · exact hc
        · rw [List.mem_singleton.mp hp]; exact hd
inductive ParseJ (news : List (Addr × Obj)) (l0 : Addr) (i : Nat) (ps : PS) (m₁ : Str → Option Value) (news₁ : List (Addr × Obj)) : Prop
  | mk (ps' : PS) (h0 : ps = ps') (rvs : List Value) (c : Nat) (tp : Tok) (e : news₁ = (l0, W.listOf (List.toArray rvs) c) :: news) (h1 : All2 (fun v p => ∃ t, v = .str (Mine.S p) t) rvs ps'.res)
    (h2 : m₁ (Str.ofString "res") = some (.ref l0)) (h3 : m₁ (Str.ofString "part") = some (.str (Mine.S ps'.part) tp)) (h4 : m₁ (Str.ofString "escape") = some (.bool ps'.esc)) (h5 : m₁ (Str.ofString "quote") = some (.bool ps'.quo)) (h6 : rvs.length ≤ i) (h7 : ps'.part.length ≤ i) : ParseJ news l0 i ps m₁ news₁
theorem parse_spec {R : Result → Shared → Prop} {tx : List Nat} {t : Tok} (a : Amb w mg mb mean (n + 2) A A₀ base h₀ env outer L) (F : Fr h₀ L s.heap m) (N : News h₀ L s.heap news) (htx : tx.length ≤ 1000)
    (k : ∀ l vs h' tk', Fr h₀ L h' m → News h₀ L h' ((l, LCg.lst vs) :: news) → All2 (fun v p => ∃ t, v = .str (Txt.strip (Mine.S p)) t) vs (parseF tx) → (∀ p ∈ news, p.1 ≠ l) → R (.ok (.ret (.ref l))) { s with heap := h', toks := tk' }) :
    codeAny (model Challenge.rw_mq0398_01.row.prog w) A (.call (.ref 44) ⟨[.str (S tx) t], []⟩) R s := by
  refine' enter a F N ?ho ?hcd ?hb ?hl ?_ ?c1 ?c2 ?c3 ?c4
  case ho => walk_at "ho"
  case hcd => k_is
  case hb => exact BindsTo.of_eq rfl
  case hl => exact locs rfl
  case c1 => exact rfl
  case c2 => exact rfl
  case c3 => exact rfl
  case c4 => decide
  intro g L' h' FG' Am F' N'
  have Am0 := Am
  obtain ⟨B', X', T', hA', hf', hk', hd', hu', hh'⟩ := Am
  (try dsimp only)
  refine no_raise ?_
  refine opaqueQ fun Q9 kQ9 => ?_
  (try k_fold)
  have htl : (S tx).length = tx.length := by simp [Str.length, S]
  have htz : (S tx).length ≤ 1000 := by rw [htl]; exact htx
  k_steps
  rename Fr _ _ _ _ => F0
  rename News _ _ _ _ => N0
  rename_i l0 _ hl0 _ _ _ _
  have hl0' := hl0
  (try k_lt hl0')
  refine iter_str (news := (l0, W.listOf #[] 0) :: news) (fun i => ParseJ news l0 i ((tx.take i).foldl pStep ⟨[], [], false, false⟩)) hh' F0 N0 ?_ ?_ ?_
  · exact ⟨_, rfl, [], 0, _, rfl, .nil, rfl, (by show _ = some (Value.str (Mine.S []) _); rw [← lit_nil]; rfl), rfl, rfl, Nat.le_refl _, Nat.le_refl _⟩
  · rintro I i c tc m₁ news₁ own h1 tk1 hc ⟨⟨res, part, esc, quo⟩, hps0, rvs, cc, tp, rfl, hres, hr, hp, he, hq, hrl, hpl⟩ hoff hown hfp F₁ N₁
    have hi : i < tx.length := (List.getElem?_eq_some_iff.mp hc).1
    have hst : (tx.take (i + 1)).foldl pStep ⟨[], [], false, false⟩ = pStep ⟨res, part, esc, quo⟩ c := by
      rw [List.take_add_one, hc, ← hps0]; simp
    refine opaqueQ fun Q8 kQ8 => ?_
    dsimp only at hres hp he hq hpl
    rw [kn4 hr hp he hq] at F₁
    have hsz : rvs.length ≤ 1000 := by omega
    have hpz : (S part).length ≤ 1000 := by simp [Str.length, S]; omega
    have hne : ∀ p ∈ news ++ own, p.1 ≠ l0 := by
      intro p hp
      rcases List.mem_append.mp hp with hp | hp
      · exact Nat.ne_of_lt (hl0 p hp)
      · exact fun e => hoff _ (.head _) (e ▸ hown p hp)
    simp only [List.cons_append] at N₁
    dsimp only at F₁ N₁ ⊢
    clear hr hp he hq
    cases esc
    · cases quo
      · k_steps
        · dsimp only
          rename Fr _ _ _ _ => F9
          rename News _ _ _ _ => N9
          rename (Mine.S [c] == Str.ofString ",") = true => e44
          rw [q44] at e44
          have hps : pStep ⟨res, part, false, false⟩ c = ⟨res ++ [part], [], false, false⟩ := by simp [pStep, of_decide_eq_true e44]
          (try rw [S_app] at F9)
          refine kQ8 _ _ ⟨_, _, _, (l0, W.listOf (rvs ++ [Value.str (Mine.S part) tp]).toArray (cc + 1)) :: news, rfl, F9, N9, ?_, _, hst.trans hps, rvs ++ [Value.str (Mine.S part) tp], cc + 1, _, rfl, hres.append (.cons ⟨_, rfl⟩ .nil), rfl, (by show _ = some (Value.str (Mine.S []) _); rw [← lit_nil]; rfl), rfl, rfl, by simp; omega, by simp⟩
          intro p hp
          rcases List.mem_cons.mp hp with rfl | hp
          · exact hoff (l0, W.listOf rvs.toArray cc) (.head _)
          · exact hoff p (.tail _ hp)
        · dsimp only
          rename Fr _ _ _ _ => F9
          rename News _ _ _ _ => N9
          rename (Mine.S [c] == Str.ofString ",") = false => e44
          rw [q44] at e44
          rename (Mine.S [c] == Str.ofString "\"") = true => e34
          rw [q34] at e34
          have hps : pStep ⟨res, part, false, false⟩ c = ⟨res, part ++ [c], false, true⟩ := by simp [pStep, of_decide_eq_false e44, of_decide_eq_true e34]
          (try rw [S_app] at F9)
          refine kQ8 _ _ ⟨_, _, _, (l0, W.listOf rvs.toArray cc) :: news, rfl, F9, N9, hoff, _, hst.trans hps, rvs, cc, _, rfl, hres, rfl, rfl, rfl, rfl, by omega, by simp; omega⟩
        · dsimp only
          rename Fr _ _ _ _ => F9
          rename News _ _ _ _ => N9
          rename (Mine.S [c] == Str.ofString ",") = false => e44
          rw [q44] at e44
          rename (Mine.S [c] == Str.ofString "\"") = false => e34
          rw [q34] at e34
          have hps : pStep ⟨res, part, false, false⟩ c = ⟨res, part ++ [c], false, false⟩ := by simp [pStep, of_decide_eq_false e44, of_decide_eq_false e34]
          (try rw [S_app] at F9)
          refine kQ8 _ _ ⟨_, _, _, (l0, W.listOf rvs.toArray cc) :: news, rfl, F9, N9, hoff, _, hst.trans hps, rvs, cc, _, rfl, hres, rfl, rfl, rfl, rfl, by omega, by simp; omega⟩
      · k_steps
        · dsimp only
          rename Fr _ _ _ _ => F9
          rename News _ _ _ _ => N9
          rename (Mine.S [c] == Str.ofString "\\") = true => e92
          rw [q92] at e92
          have hps : pStep ⟨res, part, false, true⟩ c = ⟨res, part, true, true⟩ := by simp [pStep, of_decide_eq_true e92]
          (try rw [S_app] at F9)
          refine kQ8 _ _ ⟨_, _, _, (l0, W.listOf rvs.toArray cc) :: news, rfl, F9, N9, hoff, _, hst.trans hps, rvs, cc, _, rfl, hres, rfl, rfl, rfl, rfl, by omega, by simp; omega⟩
        · dsimp only
          rename Fr _ _ _ _ => F9
          rename News _ _ _ _ => N9
          rename (Mine.S [c] == Str.ofString "\\") = false => e92
          rw [q92] at e92
          rename (Mine.S [c] == Str.ofString "\"") = true => e34
          rw [q34] at e34
          have hps : pStep ⟨res, part, false, true⟩ c = ⟨res, part ++ [c], false, false⟩ := by simp [pStep, of_decide_eq_false e92, of_decide_eq_true e34]
          (try rw [S_app] at F9)
          refine kQ8 _ _ ⟨_, _, _, (l0, W.listOf rvs.toArray cc) :: news, rfl, F9, N9, hoff, _, hst.trans hps, rvs, cc, _, rfl, hres, rfl, rfl, rfl, rfl, by omega, by simp; omega⟩
        · dsimp only
          rename Fr _ _ _ _ => F9
          rename News _ _ _ _ => N9
          rename (Mine.S [c] == Str.ofString "\\") = false => e92
          rw [q92] at e92
          rename (Mine.S [c] == Str.ofString "\"") = false => e34
          rw [q34] at e34
          have hps : pStep ⟨res, part, false, true⟩ c = ⟨res, part ++ [c], false, true⟩ := by simp [pStep, of_decide_eq_false e92, of_decide_eq_false e34]
          (try rw [S_app] at F9)
          refine kQ8 _ _ ⟨_, _, _, (l0, W.listOf rvs.toArray cc) :: news, rfl, F9, N9, hoff, _, hst.trans hps, rvs, cc, _, rfl, hres, rfl, rfl, rfl, rfl, by omega, by simp; omega⟩
    · k_steps
      · dsimp only
        rename Fr _ _ _ _ => F9
        rename News _ _ _ _ => N9
        have hps : pStep ⟨res, part, true, quo⟩ c = ⟨res, part ++ [c], false, quo⟩ := by simp [pStep]
        (try rw [S_app] at F9)
        refine kQ8 _ _ ⟨_, _, _, (l0, W.listOf rvs.toArray cc) :: news, rfl, F9, N9, hoff, _, hst.trans hps, rvs, cc, _, rfl, hres, rfl, rfl, rfl, rfl, by omega, by simp; omega⟩
  · rintro h1 tk1 m₁ news₁ F₁ N₁ ⟨⟨res, part, esc, quo⟩, hps0, rvs, cc, tp, rfl, hres, hr, hp, he, hq, hrl, hpl⟩
    rw [List.take_length] at hps0
    unfold parseF at k
    have hlen : ∀ p ∈ (tx.foldl pStep ⟨[], [], false, false⟩).res ++ [(tx.foldl pStep ⟨[], [], false, false⟩).part], p.length ≤ 1000 := by
      have h2 := ps_len tx (s := ⟨[], [], false, false⟩) (n := 0) (by intro p hp; cases hp) (Nat.le_refl _)
      intro p hp
      rcases List.mem_append.mp hp with hp | hp
      · have := h2.1 p hp; omega
      · rw [List.mem_singleton.mp hp]; have := h2.2; omega
    rw [hps0] at k hlen
    dsimp only at hlen hres hp he hq hpl
    rw [kn4 hr hp he hq] at F₁
    have hsz : rvs.length ≤ 1000 := by omega
    have hpz : (S part).length ≤ 1000 := by simp [Str.length, S]; omega
    have hne : ∀ p ∈ news, p.1 ≠ l0 := fun p hp => Nat.ne_of_lt (hl0 p hp)
    clear hr hp he hq N0 F0
    dsimp only at F₁ N₁ ⊢
    k_steps
    all_goals unfold AtC
    all_goals (refine LCg.ListComp_U (F₀ := by assumption) (by with_unfolding_all rfl) (by decide) (by rfl) (by decide) (by rfl) ?_)
    · k_steps
      have hall : All2 (fun v p => ∃ t, v = Value.str (Mine.S p) t) (rvs ++ [Value.str (Mine.S part) tp]) (res ++ [part]) := hres.append (.cons ⟨_, rfl⟩ .nil)
      refine LCg.CompSrc.ledger (its := (rvs ++ [Value.str (Mine.S part) tp]).toArray) (by assumption) (by assumption) (by assumption) (.head _) (by simp [sizeLine]; omega) fun g' => comp_rest (G := fun i y => ∃ p, (res ++ [part])[i]? = some p ∧ ∃ t, y = .str (Txt.strip (Mine.S p)) t) (.inr ⟨_, .head _, rfl, _, rfl⟩) ?_ ?_
      · intro i v I oI C oC D m₂ ys h tk E' hv hC hx F2 N2 off ne
        obtain ⟨p, hp, t, rfl⟩ := all2_get hall hv
        have hlp : p.length ≤ 1000 := hlen p (by first | exact List.mem_of_getElem? hp | exact List.mem_append_left _ (List.mem_of_getElem? hp))
        have hlz : (Mine.S p).length ≤ 1000 := by simp [Str.length, Mine.S]; omega
        k_steps
        all_goals first | exact F2 | exact N2 | exact ⟨p, hp, _, rfl⟩
      · intro ys hl hg D h tk F2 N2 off
        dsimp only
        (try k_sweep)
        k_steps
        refine kQ9 _ _ ?_
        refine leaveK_ F2 N2 (fun F1 N1 => k D ys _ _ F1 (news_sub N1 fun p hp => ?_) ?_ ?_)
        · rcases List.mem_cons.mp hp with rfl | hp
          · exact .head _
          · exact .tail _ (.tail _ hp)
        · rw [show pEnd ⟨res, part, esc, quo⟩ = res ++ [part] from if_neg (show part ≠ [] from fun e => by subst e; rename _ ≠ (0 : Int) => hz; exact hz rfl)]
          exact all2_mk (by rw [hl]; exact hall.length) hg
        · exact fun p hp => (off1_mem off p (.tail _ hp))
    · k_steps
      have hall : All2 (fun v p => ∃ t, v = Value.str (Mine.S p) t) (rvs) (res) := hres
      refine LCg.CompSrc.ledger (its := (rvs).toArray) (by assumption) (by assumption) (by assumption) (.head _) (by simp [sizeLine]; omega) fun g' => comp_rest (G := fun i y => ∃ p, (res)[i]? = some p ∧ ∃ t, y = .str (Txt.strip (Mine.S p)) t) (.inr ⟨_, .head _, rfl, _, rfl⟩) ?_ ?_
      · intro i v I oI C oC D m₂ ys h tk E' hv hC hx F2 N2 off ne
        obtain ⟨p, hp, t, rfl⟩ := all2_get hall hv
        have hlp : p.length ≤ 1000 := hlen p (by first | exact List.mem_of_getElem? hp | exact List.mem_append_left _ (List.mem_of_getElem? hp))
        have hlz : (Mine.S p).length ≤ 1000 := by simp [Str.length, Mine.S]; omega
        k_steps
        all_goals first | exact F2 | exact N2 | exact ⟨p, hp, _, rfl⟩
      · intro ys hl hg D h tk F2 N2 off
        dsimp only
        (try k_sweep)
        k_steps
        refine kQ9 _ _ ?_
        refine leaveK_ F2 N2 (fun F1 N1 => k D ys _ _ F1 (news_sub N1 fun p hp => ?_) ?_ ?_)
        · rcases List.mem_cons.mp hp with rfl | hp
          · exact .head _
          · exact .tail _ (.tail _ hp)
        · rw [show pEnd ⟨res, part, esc, quo⟩ = res from if_pos (show part = [] from by rename _ = (0 : Int) => hz; simpa [Str.length, Mine.S] using hz)]
          exact all2_mk (by rw [hl]; exact hall.length) hg
        · exact fun p hp => (off1_mem off p (.tail _ hp))
end
end Mine
/-! CU -/
namespace Mine
open PySem PySem.W PySem.Calls PyProof.Rows PySem.Spec
theorem zz_CU {P : Nat → Prop} (h : ∃ x, P x) : ∃ x, P x := by first | (w_top off; walk1; fail) | exact h
theorem fill_cu : ∀ (w : World) (h : Heap), (Mine.hd.heap_39 w.params).In h → PySem.Challenge.rw_mq0398_01.row.prog = PySem.Challenge.rw_mq0398_01.row.prog := by
  k_fill
  intros; rfl
section
variable {prog : Program} {w : World} {A : Around} {E : Value → Shared → Prop} {s : Shared} {env : Env} {h₀ : Heap} {x : Str} {body : List Stmt} {Q : Flow → Shared → Prop}
/-- a list of the ledger is walked; it stays in the ledger -/
theorem iter_listK {l : Addr} {vs : Array Value} {m : Str → Option Value} {news : List (Addr × Obj)} (J : Nat → (Str → Option Value) → List (Addr × Obj) → Prop)
    (hh : A.handled = none) (hl : s.heap.IsList l vs) (hlL : env.locals ≠ l) (F : Fr h₀ env.locals s.heap m) (N : News h₀ env.locals s.heap news) (h0 : J 0 m news)
    (turn : ∀ I i v m₁ news₁ own h tk, vs[i]? = some v → J i m₁ news₁ → (∀ p ∈ news₁, p.1 ∉ [I]) → (∀ p ∈ own, p.1 ∈ [I, l]) → (∀ b ∈ [I], (∃ o, (b, o) ∈ own) ∨ ∃ o, h₀.get? b = some o) →
      Fr h₀ env.locals ({ s with heap := h, toks := tk } : Shared).heap (fun y => if y = x then some v else m₁ y) → News h₀ env.locals ({ s with heap := h, toks := tk } : Shared).heap (news₁ ++ own) →
      wpAny (model prog w) A (execs body env) (StepJ h₀ env.locals [I] own (J (i + 1)) ({ s with heap := h, toks := tk } : Shared) Q) E ({ s with heap := h, toks := tk } : Shared))
    (done : ∀ h' tk m' news', Fr h₀ env.locals h' m' → News h₀ env.locals h' news' → J vs.size m' news' → Q .next { s with heap := h', toks := tk }) :
    AtIter prog w A h₀ env x body Q E (.ref l) s := by
  unfold AtIter
  obtain ⟨ol, hol, _⟩ := id hl
  have hlt : l < s.heap.objs.size := Heap.lt_size hol
  refine wpAny_pyIter_list hl ?_
  have hI : h₀.get? s.heap.objs.size = none := none_at_size F
  refine ⟨s.heap.objs.size, [s.heap.objs.size, l], [s.heap.objs.size], _, _, _, m, news, fun i m news => J i m news ∧ ∀ p ∈ news, p.1 ∉ [s.heap.objs.size], rfl, Walks.list (prog := prog) (w := w) hh s.heap.objs.size l (Nat.ne_of_lt hlt) vs, ?_, ?_, ?_, ⟨⟨_, Heap.get?_push_size _ rfl, rfl, rfl⟩, hl.at fun o e => Heap.get?_push_of_some _ e⟩, F.push _, (fun p hp => ⟨Heap.get?_push_of_some _ (N p hp).1, (N p hp).2⟩), ⟨h0, ?_⟩, ?_, fun h' tk m' news' F' N' _ hJ => done h' tk m' news' F' N' hJ.1⟩
  · intro hm
    rcases List.mem_cons.mp hm with e | hm
    · exact absurd F.ns.lt (e ▸ Nat.lt_irrefl _)
    · exact hlL (List.mem_singleton.mp hm)
  · intro b hb; rw [List.mem_singleton.mp hb]; exact hI
  · intro p hp hm
    exact absurd (Heap.lt_size (N p hp).1) (List.mem_singleton.mp hm ▸ Nat.lt_irrefl _)
  · intro p hp hm
    exact absurd (Heap.lt_size (N p hp).1) (List.mem_singleton.mp hm ▸ Nat.lt_irrefl _)
  · rintro i v m₁ news₁ s₁ own ⟨h, tk, rfl⟩ hi hP hJ _ hown _ hin hst₁ F₁ N₁
    have hfp : ∀ b ∈ [s.heap.objs.size], (∃ o, (b, o) ∈ own) ∨ ∃ o, h₀.get? b = some o := fun b hb => by
      obtain rfl := List.mem_singleton.mp hb
      obtain ⟨⟨o, ho, _⟩, _⟩ := hst₁
      exact .inl ⟨o, hin _ (.head _) hI o ho⟩
    refine wpAny_mono (turn _ i v m₁ news₁ own h tk hP hJ.1 hJ.2 hown hfp F₁ (news_swap N₁)) (fun f s₂ hf => ?_) fun _ _ e => e
    cases f with
    | ret v => exact hf
    | brk => exact hf
    | next =>
      obtain ⟨h', tk, m₂, news₂, rfl, F₂, N₂, ho, hJ₂⟩ := hf
      exact ⟨rfl, h', tk, m₂, news₂, rfl, F₂, news_swap N₂, ho, hJ₂, ho⟩
    | cont =>
      obtain ⟨h', tk, m₂, news₂, rfl, F₂, N₂, ho, hJ₂⟩ := hf
      exact ⟨rfl, h', tk, m₂, news₂, rfl, F₂, news_swap N₂, ho, hJ₂, ho⟩
end
section
variable {w : World} {mg mb : Str → Option Value} {mean : ExcName → Option Value} {n : Nat} {A A₀ : Around} {base h₀ : Heap} {env : Env} {outer : List Env} {L : Addr} {s : Shared} {m : Str → Option Value} {news : List (Addr × Obj)}
local macro_rules | `(tactic| walk_at "exec For") => fresh (ruleN "for_stop" "arr_cp" "" false)
local macro_rules | `(tactic| walk_at "call builtin:list.append") => fresh (ruleH "app_L" "aauo_" "h' F' N'" true)
noncomputable def PartAt (nw nr : List (Addr × Obj)) (v : Value) (p : List Pc) : Prop :=
  ∃ x vs c, v = .ref x ∧ (x, W.listOf (List.toArray vs) c) ∈ nw ∧ All2 (PcAt nr) vs p
theorem PartAt.mono {a b nr : List (Addr × Obj)} (h : ∀ p ∈ a, p ∈ b) {v : Value} {p : List Pc} (x : PartAt a nr v p) : PartAt b nr v p :=
  let ⟨x, vs, c, e, q, r⟩ := x; ⟨x, vs, c, e, h _ q, r⟩
theorem any_mem {l : List Int} {r : Int} (h : (l.any fun x => x == r) = true) : r ∈ l := by
  obtain ⟨x, hx, e⟩ := List.any_eq_true.mp h
  rw [← eq_of_beq e]; exact hx
theorem any_nmem {l : List Int} {r : Int} (h : (l.any fun x => x == r) = false) : ¬ r ∈ l := fun hx => by
  have : (l.any fun x => x == r) = true := List.any_eq_true.mpr ⟨r, hx, beq_self_eq_true r⟩
  rw [h] at this; cases this
theorem last_at (xs : List Value) (v : Value) : (xs ++ [v]).toArray[((-1 : Int) + ((xs ++ [v]).toArray.size : Int)).toNat]? = some v := by
  have e : ((-1 : Int) + ((xs ++ [v]).toArray.size : Int)).toNat = xs.length := by simp; omega
  rw [e]; simp
theorem item_last {prog : Program} {A : Around} {E : Value → Shared → Prop} {value slice : Expr} {l : Addr} {xs : List Value} {v : Value} {u : Tok} {Q : Value → Shared → Prop} (hl : s.heap.IsList l (xs ++ [v]).toArray) (h : Q v s)
    (hs : subscripted slice false (.ref l) (.int (-1) u) = operate [.ref l, .int (-1) u] (getItem (.ref l) (.int (-1) u)) := by with_unfolding_all rfl) :
    wpAny (model prog w) A (subscriptTail value slice (.ref l) (.int (-1) u)) Q E s :=
  subscriptTail_builtinR hl.typeIs slot_list_getitem.lookup (wpAny_getItem_list_neg (Q := fun r s' => r = v ∧ Q r s') hl (by decide) (by simp; omega) (by decide) (last_at xs v) ⟨rfl, h⟩) hs
local macro_rules | `(tactic| walk_at "subscriptTail") => `(tactic| ((with_reducible show wpAny _ _ (subscriptTail _ _ (Value.ref _) (Value.int (-1) _)) _ _ _); k_dflt (refine item_last (News.isList (by k_asm) (by k_mem)) ?_)))
theorem news_dup {h₀ h : Heap} {L : Addr} {news : List (Addr × Obj)} {p : Addr × Obj} (N : News h₀ L h news) (hp : p ∈ news) : News h₀ L h (p :: news) := fun q hq => by
  rcases List.mem_cons.mp hq with rfl | hq
  · exact N _ hp
  · exact N _ hq
inductive CutJ (roles : List Int) (row : List Pc) (nr news : List (Addr × Obj)) (l0 ro : Addr) (i : Nat) (m₁ : Str → Option Value) (news₁ : List (Addr × Obj)) : Prop
  | mk (rvs : List Value) (c : Nat) (lk : Addr) (vsk : List Value) (ck : Nat) (nw : List (Addr × Obj)) (e : news₁ = (l0, W.listOf (List.toArray (rvs ++ [Value.ref lk])) c) :: (lk, W.listOf (List.toArray vsk) ck) :: (nw ++ news))
    (h1 : All2 (PartAt nw nr) rvs (cutF roles (row.take i)).1) (h2 : All2 (PcAt nr) vsk (cutF roles (row.take i)).2) (h3 : m₁ (Str.ofString "parts") = some (.ref l0)) (h4 : m₁ (Str.ofString "roles") = some (.ref ro))
    (h5 : ∀ p ∈ nw, ∀ q ∈ news, q.1 < p.1) (h6 : ∀ q ∈ news, q.1 < lk) (h7 : ∀ p ∈ nw, p.1 ≠ l0 ∧ p.1 ≠ lk) (h8 : lk ≠ l0) (h9 : rvs.length ≤ i) (h10 : vsk.length ≤ i) : CutJ roles row nr news l0 ro i m₁ news₁
theorem cut_spec {R : Result → Shared → Prop} {r ro : Addr} {vs : List Value} {cr : Nat} {row : List Pc} {tvs : List Value} {roles : List Int} (a : Amb w mg mb mean (n + 2) A A₀ base h₀ env outer L) (F : Fr h₀ L s.heap m) (N : News h₀ L s.heap news)
    (hr : (r, W.listOf vs.toArray cr) ∈ news) (hro : (ro, tupO tvs) ∈ news) (hts : IntsAre tvs roles) {nr : List (Addr × Obj)} (hsub : ∀ p ∈ nr, p ∈ news) (hrow : All2 (PcAt nr) vs row) (hlen : row.length ≤ 1000)
    (k : ∀ l rvs c nw h' tk', Fr h₀ L h' m → News h₀ L h' ((l, W.listOf (List.toArray rvs) c) :: (nw ++ news)) → All2 (PartAt nw nr) rvs (cutL roles row) → (∀ p ∈ nw, ∀ q ∈ news, q.1 < p.1) → (∀ p ∈ news, p.1 < l) → (∀ p ∈ nw, p.1 ≠ l) → R (.ok (.ret (.ref l))) { s with heap := h', toks := tk' }) :
    codeAny (model Challenge.rw_mq0398_01.row.prog w) A (.call (.ref 774) ⟨[.ref r, .ref ro], []⟩) R s := by
  refine' enter a F N ?ho ?hcd ?hb ?hl ?_ ?c1 ?c2 ?c3 ?c4
  case ho => walk_at "ho"
  case hcd => k_is
  case hb => exact BindsTo.of_eq rfl
  case hl => exact locs rfl
  case c1 => exact rfl
  case c2 => exact rfl
  case c3 => exact rfl
  case c4 => decide
  intro g L' h' FG' Am F' N'
  have Am0 := Am
  obtain ⟨B', X', T', hA', hf', hk', hd', hu', hh'⟩ := Am
  (try dsimp only)
  refine no_raise ?_
  refine opaqueQ fun Q9 kQ9 => ?_
  (try k_fold)
  k_steps
  rename Fr _ _ _ _ => F0
  rename News _ _ _ _ => N0
  rename_i l1 _ hl1 l0 _ hl0 _
  (try dsimp only)
  have hrl := hrow.length
  have hrL : L' ≠ r := fun e => (N0 _ (.tail _ (.tail _ hr))).2.1 e.symm
  refine iter_listK (vs := vs.toArray) (news := (l0, W.listOf #[Value.ref l1] 0) :: (l1, W.listOf #[] 0) :: news) (CutJ roles row nr news l0 ro) hh' ⟨_, (N0 _ (.tail _ (.tail _ hr))).1, rfl, _, rfl⟩ hrL F0 N0 ?_ ?_ ?_
  · exact ⟨[], 0, l1, [], 0, [], rfl, .nil, .nil, rfl, rfl, (fun _ h => nomatch h), hl1, (fun _ h => nomatch h), Nat.ne_of_lt hl0.1, Nat.le_refl _, Nat.le_refl _⟩
  · rintro I i v m₁ news₁ own h1 tk1 hv ⟨rvs, c, lk, vsk, ck, nw, rfl, hdone, hlast, hp, hq, hnw, hlk, hnl, hlkl, hrvl, hvkl⟩ hoff hown hfp F₁ N₁
    rw [kn2 hp hq] at F₁
    refine opaqueQ fun Q8 kQ8 => ?_
    obtain ⟨pc, hpc, hat⟩ := hrow.get (i := i) (a := v) (by simpa using hv)
    obtain ⟨x, t1, t2', t3, t4, rfl, hx⟩ := id hat
    replace hx := hsub _ hx
    have hi : i < row.length := (List.getElem?_eq_some_iff.mp hpc).1
    have hst : cutF roles (row.take (i + 1)) = cutStep roles (cutF roles (row.take i)) pc := by
      unfold cutF
      rw [List.take_add_one, hpc]; simp
    generalize cutF roles (row.take i) = cs at *
    obtain ⟨dn, lst⟩ := cs
    dsimp only at hdone hlast
    have hsz1 : rvs.length ≤ 1000 := by omega
    have hsz2 : vsk.length ≤ 1000 := by omega
    have hxl0 : x ≠ l0 := Nat.ne_of_lt (allLt_mem hl0.2 _ hx)
    have hxlk : x ≠ lk := Nat.ne_of_lt (hlk _ hx)
    have hne0 : ∀ p ∈ (nw ++ news) ++ own, p.1 ≠ l0 := by
      intro p hp
      rcases List.mem_append.mp hp with hp | hp
      · rcases List.mem_append.mp hp with hp | hp
        · exact (hnl p hp).1
        · exact Nat.ne_of_lt (allLt_mem hl0.2 p hp)
      · rcases List.mem_cons.mp (hown p hp) with e | e
        · exact fun e2 => hoff _ (.head _) (List.mem_singleton.mpr (e2.symm.trans e))
        · rw [List.mem_singleton.mp e]; exact Nat.ne_of_lt (allLt_mem hl0.2 _ hr)
    have hnek : ∀ p ∈ (nw ++ news) ++ own, p.1 ≠ lk := by
      intro p hp
      rcases List.mem_append.mp hp with hp | hp
      · rcases List.mem_append.mp hp with hp | hp
        · exact (hnl p hp).2
        · exact Nat.ne_of_lt (hlk p hp)
      · rcases List.mem_cons.mp (hown p hp) with e | e
        · exact fun e2 => hoff _ (.tail _ (.head _)) (List.mem_singleton.mpr (e2.symm.trans e))
        · rw [List.mem_singleton.mp e]; exact Nat.ne_of_lt (hlk _ hr)
    simp only [List.cons_append] at N₁
    replace N₁ := news_dup N₁ (p := (x, tupO [.str (S pc.t) t1, .str (S pc.p) t2', .str (S pc.w) t3, .int pc.r t4])) (.tail _ (.tail _ (List.mem_append_left _ (List.mem_append_right _ hx))))
    replace N₁ := news_dup N₁ (p := (ro, tupO tvs)) (.tail _ (.tail _ (.tail _ (List.mem_append_left _ (List.mem_append_right _ hro)))))
    have hl0k := hlkl.symm
    have hrol0 : ro ≠ l0 := Nat.ne_of_lt (allLt_mem hl0.2 _ hro)
    have hrolk : ro ≠ lk := Nat.ne_of_lt (hlk _ hro)
    dsimp only at F₁ N₁ ⊢
    clear hp hq N0 F0
    (try k_fold)
    k_steps
    · rename Fr _ _ _ _ => F9
      rename News _ _ _ _ => N9
      rename List.any _ _ = true => hb
      rename_i D _ hlD _
      rw [List.push_toArray] at N9
      have hcut : cutStep roles (dn, lst) pc = (dn ++ [lst], []) := if_pos (any_mem hb)
      have hst2 := hst.trans hcut
      have hDnew : ∀ p ∈ (nw ++ news) ++ own, p.1 < D := allLt_mem hlD.2.2.2.2
      refine kQ8 _ _ ⟨_, _, _, (l0, W.listOf (List.toArray ((rvs ++ [Value.ref lk]) ++ [Value.ref D])) (c + 1)) :: (D, W.listOf (List.toArray []) 0) :: (((lk, W.listOf (List.toArray vsk) ck) :: nw) ++ news), rfl, F9, news_sub N9 ?_, ?_, rvs ++ [Value.ref lk], c + 1, D, [], 0, (lk, W.listOf (List.toArray vsk) ck) :: nw, rfl, ?_, (by rw [hst2]; exact .nil), rfl, rfl, ?_, ?_, ?_, ?_, ?_, Nat.zero_le _⟩
      · intro p hp
        simp only [List.cons_append, List.mem_cons, List.mem_append] at hp ⊢
        rcases hp with h | h | h | (h | h) | h
        · exact .inr (.inr (.inr (.inl h)))
        · exact .inl h
        · exact .inr (.inr (.inr (.inr (.inl h))))
        · exact .inr (.inr (.inr (.inr (.inr (.inl (.inl h))))))
        · exact .inr (.inr (.inr (.inr (.inr (.inl (.inr h))))))
        · exact .inr (.inr (.inr (.inr (.inr (.inr h)))))
      · intro p hp
        simp only [List.cons_append, List.mem_cons, List.mem_append] at hp
        rcases hp with h | h | h | h
        · rw [h]; exact hoff (l0, W.listOf (List.toArray (rvs ++ [Value.ref lk])) c) (.head _)
        · rw [h]; exact off_new hfp (N9 _ (.head _)).2.2 fun q hq => hDnew q (List.mem_append_right _ hq)
        · rw [h]; exact hoff (lk, W.listOf (List.toArray vsk) ck) (.tail _ (.head _))
        · exact hoff p (.tail _ (.tail _ (List.mem_append.mpr h)))
      · rw [hst2]; refine (hdone.imp fun _ _ h => h.mono fun q hq => .tail _ hq).append (.cons ⟨lk, vsk, ck, rfl, .head _, hlast⟩ .nil)
      · intro p hp q hq
        rcases List.mem_cons.mp hp with rfl | hp
        · exact hlk q hq
        · exact hnw p hp q hq
      · exact fun q hq => hDnew q (List.mem_append_left _ (List.mem_append_right _ hq))
      · intro p hp
        rcases List.mem_cons.mp hp with rfl | hp
        · exact ⟨hlkl, Nat.ne_of_lt hlD.2.2.2.1⟩
        · exact ⟨(hnl p hp).1, Nat.ne_of_lt (hDnew p (List.mem_append_left _ (List.mem_append_left _ hp)))⟩
      · exact Nat.ne_of_gt hlD.2.2.1
      · simp; omega
    · rename Fr _ _ _ _ => F9
      rename News _ _ _ _ => N9
      rename List.any _ _ = false => hb
      (try rw [List.push_toArray] at N9)
      have hcut : cutStep roles (dn, lst) pc = (dn, lst ++ [pc]) := if_neg (any_nmem hb)
      have hst2 := hst.trans hcut
      refine kQ8 _ _ ⟨_, _, _, (l0, W.listOf (List.toArray (rvs ++ [Value.ref lk])) c) :: (lk, W.listOf (List.toArray (vsk ++ [Value.ref x])) (ck + 1)) :: (nw ++ news), rfl, F9, news_sub N9 ?_, ?_, rvs, c, lk, vsk ++ [Value.ref x], ck + 1, nw, rfl, (by rw [hst2]; exact hdone), (by rw [hst2]; exact hlast.append (.cons hat .nil)), rfl, rfl, hnw, hlk, hnl, hlkl, by omega, by simp; omega⟩
      · intro p hp
        simp only [List.cons_append, List.mem_cons, List.mem_append] at hp ⊢
        rcases hp with h | h | (h | h) | h
        · exact .inr (.inr (.inl h))
        · exact .inr (.inr (.inr (.inl h)))
        · exact .inr (.inr (.inr (.inr (.inl (.inl h)))))
        · exact .inr (.inr (.inr (.inr (.inl (.inr h)))))
        · exact .inr (.inr (.inr (.inr (.inr h))))
      · intro p hp
        simp only [List.mem_cons, List.mem_append] at hp
        rcases hp with h | h | h
        · rw [h]; exact hoff (l0, W.listOf (List.toArray (rvs ++ [Value.ref lk])) c) (.head _)
        · rw [h]; exact hoff (lk, W.listOf (List.toArray vsk) ck) (.tail _ (.head _))
        · exact hoff p (.tail _ (.tail _ (List.mem_append.mpr h)))
  · rintro h1 tk1 m₁ news₁ F₁ N₁ ⟨rvs, c, lk, vsk, ck, nw, rfl, hdone, hlast, hp, hq, hnw, hlk, hnl, hlkl, hrvl, hvkl⟩
    rw [kn2 hp hq] at F₁
    clear hp hq N0 F0
    rw [List.size_toArray, hrl, List.take_length] at hdone hlast
    (try dsimp only)
    (try k_fold)
    k_steps
    (try dsimp only)
    refine kQ9 _ _ ?_
    refine leaveK_ F₁ N₁ (fun F1 N1 => k l0 (rvs ++ [Value.ref lk]) c ((lk, W.listOf (List.toArray vsk) ck) :: nw) _ _ F1 N1 ?_ ?_ (fun p hp => allLt_mem hl0.2 p hp) ?_)
    · exact (hdone.imp fun _ _ h => h.mono fun q hq => .tail _ hq).append (.cons ⟨lk, vsk, ck, rfl, .head _, hlast⟩ .nil)
    · intro p hp q hq
      rcases List.mem_cons.mp hp with rfl | hp
      · exact hlk q hq
      · exact hnw p hp q hq
    · intro p hp
      rcases List.mem_cons.mp hp with rfl | hp
      · exact hlkl
      · exact (hnl p hp).1
end
end Mine
/-! MD -/
namespace Mine
open PySem PySem.W PySem.Calls PyProof.Rows PySem.Spec
theorem zz_MD {P : Nat → Prop} (h : ∃ x, P x) : ∃ x, P x := by first | (w_top off; walk1; fail) | exact h
theorem fill_md : ∀ (w : World) (h : Heap), (Mine.hd.heap_39 w.params).In h → PySem.Challenge.rw_mq0398_01.row.prog = PySem.Challenge.rw_mq0398_01.row.prog := by
  k_fill
  intros; rfl
section
variable {w : World} {mg mb : Str → Option Value} {mean : ExcName → Option Value} {n : Nat} {A A₀ : Around} {base h₀ : Heap} {env : Env} {outer : List Env} {L : Addr} {s : Shared} {m : Str → Option Value} {news : List (Addr × Obj)}
theorem pick_last {vs : List Value} (h : vs.length ≠ 0) : (slicePick vs.toArray none (some (-1)) none).toList = vs.dropLast := by
  have e : slicePick vs.toArray none (some (-1)) none = slicePick vs.toArray (some ((0 : Nat) : Int)) (some ((vs.length - 1 : Nat) : Int)) none := by
    have e2 : sliceBounds none (some (-1)) none vs.toArray.size = sliceBounds (some ((0 : Nat) : Int)) (some ((vs.length - 1 : Nat) : Int)) none vs.toArray.size := by
      have h1 : ¬ (((vs.length - 1 : Nat) : Int) < 0) := by omega
      simp only [sliceBounds, Option.getD_none, List.size_toArray, h1, if_false, show (1 : Int) > 0 by decide, show (-1 : Int) < 0 by decide, show ¬ (((0 : Nat) : Int) < 0) by decide, if_true]
      congr 1
      congr 1
      omega
    unfold slicePick
    rw [e2]
  rw [e, slicePick_run _ _ _ (by simp) (Nat.zero_le _)]
  simp [List.dropLast_eq_take]
local macro_rules | `(tactic| walk_at "subscriptTail Name Slice ref ref") => `(tactic| (k_here; (with_reducible show wpAny _ _ (subscriptTail _ (PySem.Expr.Slice _ _ none _) (Value.ref _) (Value.ref _)) _ _ _); k_dflt (refine' kmk_slice_lit ?F ?N ?l ?p ?q ?e ?_ ?s ?t ?z; (case F => k_asm); (case N => k_asm); (case l => kmk_list); (case p => kmk_part); (case q => kmk_part); (case e => (exact pick_last (by assumption))); (case s => with_unfolding_all rfl); (case t => kmk_pure); (case z => (simp [sizeLine]; omega))); intro D' h' F' N' l1; (try k_lt l1); (try k_sweep)))
theorem add_L {prog : Program} {A : Around} {E : Value → Shared → Prop} {l b : Addr} {vs ws : List Value} {Q : Value → Shared → Prop} (F : Fr h₀ L s.heap m) (N : News h₀ L s.heap news) (hl : s.heap.IsList l vs.toArray) (hb : s.heap.IsList b ws.toArray) (hsz : vs.length + ws.length ≤ sizeLine)
    (h : ∀ D h', Fr h₀ L h' m → News h₀ L h' ((D, W.listOf (List.toArray (vs ++ ws)) 0) :: news) → (∀ p ∈ news, p.1 < D) → Q (.ref D) { s with heap := h' }) :
    wpAny (model prog w) A (binaryOp .Add (.ref l) (.ref b)) Q E s :=
  add_lists F N hl hb (fun h' F' N' => h _ h' F' N' fun p hp => Heap.lt_size (N p hp).1) hsz
local macro_rules | `(tactic| walk_at "binaryOp Add ref ref") => fresh (par [own "here" [], shown "PySem.binaryOp _ (PySem.Value.ref _) (PySem.Value.ref _)", dflt (lineW false "add_L" "aaLLz_" "" false), par (vars "D' h' F' N' l1"), lt "l1", tri (own "sweep" [])])
noncomputable def fltB (b : Bool) : Str := if b = true then Str.ofString "No escaped character" else Str.ofString "No closing quotation"
theorem drop3 {g : Heap} {L : Addr} {h : Heap} {a b c r : Addr × Obj} {l : List (Addr × Obj)} (N : News g L h (a :: b :: c :: r :: l)) : News g L h ([a, b, c] ++ l) := news_sub N fun p hp => by
  simp only [List.cons_append, List.nil_append, List.mem_cons] at hp ⊢
  rcases hp with h | h | h | h <;> repeat first | exact h | exact Or.inl h | refine Or.inr ?_
theorem drop4 {g : Heap} {L : Addr} {h : Heap} {a b c d r : Addr × Obj} {l : List (Addr × Obj)} (N : News g L h (a :: b :: c :: d :: r :: l)) : News g L h ([a, b, c, d] ++ l) := news_sub N fun p hp => by
  simp only [List.cons_append, List.nil_append, List.mem_cons] at hp ⊢
  rcases hp with h | h | h | h | h <;> repeat first | exact h | exact Or.inl h | refine Or.inr ?_
theorem drop7 {g : Heap} {L : Addr} {h : Heap} {a b c d e f i r : Addr × Obj} {l : List (Addr × Obj)} (N : News g L h (a :: b :: c :: d :: e :: f :: i :: r :: l)) : News g L h ([a, b, c, d, e, f, i] ++ l) := news_sub N fun p hp => by
  simp only [List.cons_append, List.nil_append, List.mem_cons] at hp ⊢
  rcases hp with h | h | h | h | h | h | h | h <;> repeat first | exact h | exact Or.inl h | refine Or.inr ?_
theorem news_tl {g : Heap} {L : Addr} {h : Heap} {r : Addr × Obj} {l : List (Addr × Obj)} (N : News g L h (r :: l)) : News g L h ([] ++ l) := news_sub N fun p hp => .tail _ hp
theorem all2_dropLast {α β : Type} {R : α → β → Prop} {xs : List α} {ys : List β} (h : All2 R xs ys) : All2 R xs.dropLast ys.dropLast := by
  refine all2_mk (by simp [h.length]) fun i x hx => ?_
  have h1 : i < xs.length - 1 := by
    have := (List.getElem?_eq_some_iff.mp hx).1
    simpa using this
  have h2 : xs[i]? = some x := by
    rw [List.dropLast_eq_take, List.getElem?_take_of_lt h1] at hx
    exact hx
  obtain ⟨y, hy, hr⟩ := h.get h2
  refine ⟨y, ?_, hr⟩
  rw [List.dropLast_eq_take, List.getElem?_take_of_lt (by rw [← h.length]; exact h1)]
  exact hy
theorem lit_qq : Str.ofString "\"" = S [34] := by decide +kernel
theorem lit_bb : Str.ofString "\\\\" = S [92, 92] := by decide +kernel
local macro_rules | `(tactic| walk_at "ltn") => `(tactic| first
  | exact allLt_mem (by assumption) _ (by assumption)
  | exact allLt_mem (And.right (by assumption)) _ (by assumption)
  | exact allLt_mem (And.right (And.right (by assumption))) _ (by assumption)
  | exact allLt_mem (And.right (And.right (And.right (by assumption)))) _ (by assumption)
  | exact allLt_mem (And.right (And.right (And.right (And.right (by assumption))))) _ (by assumption)
  | exact allLt_mem (And.right (And.right (And.right (And.right (And.right (by assumption)))))) _ (by assumption)
  | exact allLt_mem (And.right (And.right (And.right (And.right (And.right (And.right (by assumption))))))) _ (by assumption)
  | exact allLt_mem (And.right (And.right (And.right (And.right (And.right (And.right (And.right (by assumption)))))))) _ (by assumption)
  | exact (by assumption : ∀ p ∈ _, p.1 < _) _ (by assumption))
local macro_rules | `(tactic| walk_at "execs cons") => fresh oneStmt
theorem mend_spec {R : Result → Shared → Prop} {r : Addr} {vs : List Value} {cr : Nat} {row : List Pc} {t : Tok} {inside b : Bool} (a : Amb w mg mb mean (n + 1) A A₀ base h₀ env outer L) (F : Fr h₀ L s.heap m) (N : News h₀ L s.heap news)
    (hr : (r, W.listOf vs.toArray cr) ∈ news) (hrow : All2 (PcAt news) vs row) (hlen : row.length ≤ 900) (h0 : row ≠ [])
    (k : ∀ l ws c nw h' tk', Fr h₀ L h' m → News h₀ L h' (nw ++ news) → (l, W.listOf (List.toArray ws) c) ∈ nw ++ news → All2 (PcAt (nw ++ news)) ws (mendF row inside (some b)) → (∀ p ∈ nw, ∀ q ∈ news, q.1 < p.1) → R (.ok (.ret (.ref l))) { s with heap := h', toks := tk' }) :
    codeAny (model Challenge.rw_mq0398_01.row.prog w) A (.call (.ref 767) ⟨[.ref r, .bool inside, .str (fltB b) t], []⟩) R s := by
  refine' enter a F N ?ho ?hcd ?hb ?hl ?_ ?c1 ?c2 ?c3 ?c4
  case ho => walk_at "ho"
  case hcd => k_is
  case hb => exact BindsTo.of_eq rfl
  case hl => exact locs rfl
  case c1 => exact rfl
  case c2 => exact rfl
  case c3 => exact rfl
  case c4 => decide
  intro g L' h' FG' Am F' N'
  have Am0 := Am
  obtain ⟨B', X', T', hA', hf', hk', hd', hu', hh'⟩ := Am
  have hrl := hrow.length
  have hvl : vs.length ≤ 900 := by omega
  have hv0 : vs.length ≠ 0 := by rw [hrl]; exact fun e => h0 (List.eq_nil_of_length_eq_zero e)
  replace N' := news_dup N' hr
  (try dsimp only)
  refine no_raise ?_
  refine opaqueQ fun Q9 kQ9 => ?_
  obtain ⟨m0, F0, e1, e2, e3⟩ : ∃ m0, Fr g L' h' m0 ∧ m0 (Str.ofString "row") = some (.ref r) ∧ m0 (Str.ofString "inside") = some (.bool inside) ∧ m0 (Str.ofString "fault") = some (.str (fltB b) t) := ⟨_, F', rfl, rfl, rfl⟩
  rw [kn3 e1 e2 e3] at F0
  clear F' e1 e2 e3
  refine gen_toks fun tk0 => ?_
  (try k_fold)
  unfold fltB at *
  cases b <;> cases inside
  all_goals (try simp only [if_true, Bool.false_eq_true, if_false] at F0)
  · k_steps
    rename Fr _ _ _ _ => F9
    rename News _ _ _ _ => N9
    (try dsimp only)
    refine kQ9 _ _ ?_
    refine leaveK_ F9 N9 (fun F1 N1 => k r vs cr [] _ _ F1 (news_tl N1) hr ?_ (fun _ h => nomatch h))
    exact hrow
  · k_steps
    rename Fr _ _ _ _ => F9
    rename News _ _ _ _ => N9
    (try dsimp only)
    refine kQ9 _ _ ?_
    refine leaveK_ F9 N9 (fun F1 N1 => k _ _ _ _ _ _ F1 (drop3 N1) (.head _) ?_ ?_)
    · exact (hrow.imp fun _ _ h => h.mono fun q hq => List.mem_append_right _ hq).append (.cons (.next (.next (.here lit_qq lit_qq lit_nil rfl))) .nil)
    · intro p hp q hq
      simp only [List.mem_cons, List.not_mem_nil, or_false] at hp
      rcases hp with rfl | rfl | rfl <;> dsimp only <;> walk_at "ltn"
  · k_steps
    rename Fr _ _ _ _ => F9
    rename News _ _ _ _ => N9
    (try dsimp only)
    refine kQ9 _ _ ?_
    refine leaveK_ F9 N9 (fun F1 N1 => k _ _ _ _ _ _ F1 (drop4 N1) (.head _) ?_ ?_)
    · exact ((all2_dropLast hrow).imp fun _ _ h => h.mono fun q hq => List.mem_append_right _ hq).append (.cons (.next (.next (.here lit_bb lit_bb lit_bs rfl))) .nil)
    · intro p hp q hq
      simp only [List.mem_cons, List.not_mem_nil, or_false] at hp
      rcases hp with rfl | rfl | rfl | rfl <;> dsimp only <;> walk_at "ltn"
  · k_steps
    rename Fr _ _ _ _ => F9
    rename News _ _ _ _ => N9
    (try dsimp only)
    refine kQ9 _ _ ?_
    refine leaveK_ F9 N9 (fun F1 N1 => k _ _ _ _ _ _ F1 (drop7 N1) (.head _) ?_ ?_)
    · exact (((all2_dropLast hrow).imp fun _ _ h => h.mono fun q hq => List.mem_append_right _ hq).append (.cons (.next (.next (.next (.next (.next (.here lit_bb lit_bs lit_bs rfl)))))) .nil)).append (.cons (.next (.next (.here lit_qq lit_qq lit_nil rfl))) .nil)
    · intro p hp q hq
      simp only [List.mem_cons, List.not_mem_nil, or_false] at hp
      rcases hp with rfl | rfl | rfl | rfl | rfl | rfl | rfl <;> dsimp only <;> walk_at "ltn"
end
end Mine
/-! SL -/
namespace Mine
open PySem PySem.W PySem.Calls PyProof.Rows PySem.Spec
section
variable {prog : Program} {w : World} {A : Around} {E : Value → Shared → Prop} {s : Shared} {h₀ : Heap} {L : Addr} {m : Str → Option Value} {news : List (Addr × Obj)}
theorem getItem_last {l : Addr} {xs : List Value} {v : Value} {u : Tok} {Q : Value → Shared → Prop} (hl : s.heap.IsList l (xs ++ [v]).toArray) (h : Q v s) :
    wpAny (model prog w) A (getItem (.ref l) (.int (-1) u)) Q E s :=
  wpAny_getItem_list_neg hl (by decide) (by simp; omega) (by decide) (last_at xs v) h
theorem setItem_last {l : Addr} {xs : List Value} {v0 v : Value} {u : Tok} {n : Nat} {Q : Unit → Shared → Prop} (ho : s.heap.get? l = some (W.listOf (xs ++ [v0]).toArray n))
    (hQ : ∀ h' n', h'.get? l = some (W.listOf (xs ++ [v]).toArray n') → Heap.SameBut l s.heap h' → Q () { s with heap := h' }) :
    wpAny (model prog w) A (setItem (.ref l) (.int (-1) u) v) Q E s := by
  have hl : s.heap.IsList l (xs ++ [v0]).toArray := ⟨_, ho, rfl, _, rfl⟩
  unfold setItem
  try with_reducible refine wpAny_holding ?_
  first | refine wpAny_bind (wpAny_pure ?_) | skip
  refine wpAny_bind (wpAny_sequenceKey hl.typeIs (by decide) ?_)
  refine wpAny_bind (wpAny_callSpecial?_slot (name := Str.ofString "__setitem__") hl.typeIs slot_list_setitem
    (wpAny_call_entry slot_list_setitem hl.typeIs entry_list_setitem ?_ (args_list_setitem _ _ _)))
  show wpAny _ _ (Builtin.List.listSubscript? (.int (-1) u) >>= _) _ _ s
  refine wpAny_bind (wpAny_listSubscript_int (fitsIndex_neg (by decide) (by decide)) ?_)
  have hidx : seqIndex? (-1) (xs ++ [v0]).toArray.size = some xs.length := by
    rw [seqIndex_neg (by decide) (by simp; omega)]
    congr 1
    simp; omega
  have hx : (xs ++ [v0]).toArray[xs.length]? = some v0 := by simp
  show wpAny _ _ ((Builtin.List.listItems (.ref l) >>= fun xs => pure ((seqIndex? (Int.negSucc 0) xs.size).bind fun i => xs[i]?.map (i, ·))) >>= _) _ _ s
  refine wpAny_bind (wpAny_bind ?_)
  show wpAny _ _ (seqItems? (.ref l) >>= _) _ _ s
  refine wpAny_bind (wpAny_seqItems ho rfl (wpAny_pure (wpAny_pure ?_)))
  rw [show seqIndex? (Int.negSucc 0) (xs ++ [v0]).toArray.size = some xs.length from hidx]
  simp only [Option.bind_some, hx, Option.map_some]
  show wpAny _ _ (setSeqItemAt l xs.length v >>= _) _ _ s
  refine wpAny_bind (wpAny_setSeqItemAt ho rfl ?_)
  have hset : (xs ++ [v0]).toArray.setIfInBounds xs.length v = (xs ++ [v]).toArray := by simp
  have hfin : (s.heap.update l (Obj.mapSeq (·.setIfInBounds xs.length v))).get? l = some (Obj.mapSeq (·.setIfInBounds xs.length v) (W.listOf (xs ++ [v0]).toArray n)) := Heap.get?_update_self _ ho rfl
  have hobj : ∃ n', Obj.mapSeq (·.setIfInBounds xs.length v) (W.listOf (xs ++ [v0]).toArray n) = W.listOf (xs ++ [v]).toArray n' := by
    obtain ⟨n', hd⟩ := Obj.data_mapSeq (o := W.listOf (xs ++ [v0]).toArray n) rfl (·.setIfInBounds xs.length v)
    refine ⟨n', ?_⟩
    rw [← hset]
    show ({ cls := _, dict := _, data := (Obj.mapSeq (·.setIfInBounds xs.length v) (W.listOf (xs ++ [v0]).toArray n)).data, slots := _ } : Obj) = _
    rw [hd]
  obtain ⟨n', hn'⟩ := hobj
  rw [hn'] at hfin
  exact wpAny_pure ⟨.none, rfl, wpAny_pure (hQ _ _ hfin (Heap.SameBut.update ..))⟩
/-- the last item of a list of the ledger is set -/
theorem set_L {l : Addr} {xs : List Value} {v0 v : Value} {u : Tok} {n : Nat} {o' : Obj → List (Addr × Obj)} {Q : Unit → Shared → Prop} (F : Fr h₀ L s.heap m) (N : News h₀ L s.heap news) (U : UpdF l (W.listOf (xs ++ [v0]).toArray n) news o')
    (h : ∀ h' n', Fr h₀ L h' m → News h₀ L h' (o' (W.listOf (xs ++ [v]).toArray n')) → Q () { s with heap := h' }) :
    wpAny (model prog w) A (setItem (.ref l) (.int (-1) u) v) Q E s := by
  obtain ⟨pre, post, rfl, e, a, b⟩ := U.split
  have z := N (l, W.listOf (xs ++ [v0]).toArray n) (List.mem_append.mpr (.inr (.head _)))
  refine setItem_last z.1 fun h' n' ho' hs => h h' n' (F.change hs z.2.1 z.2.2) ?_
  rw [e]
  exact news_set N a b hs ho'
theorem getItem_lastP {l : Addr} {xs : List Value} {v : Value} {u : Tok} {Q : Value → Shared → Prop} (hl : s.heap.IsList l (xs.toArray.push v)) (h : Q v s) :
    wpAny (model prog w) A (getItem (.ref l) (.int (-1) u)) Q E s := getItem_last (xs := xs) (by rwa [List.push_toArray] at hl) h
theorem set_LP {l : Addr} {xs : List Value} {v0 v : Value} {u : Tok} {n : Nat} {o' : Obj → List (Addr × Obj)} {Q : Unit → Shared → Prop} (F : Fr h₀ L s.heap m) (N : News h₀ L s.heap news) (U : UpdF l (W.listOf (xs.toArray.push v0) n) news o')
    (h : ∀ h' n', Fr h₀ L h' m → News h₀ L h' (o' (W.listOf (xs ++ [v]).toArray n')) → Q () { s with heap := h' }) :
    wpAny (model prog w) A (setItem (.ref l) (.int (-1) u) v) Q E s := set_L (xs := xs) (n := n) F N (by rw [List.push_toArray] at U; exact U) h
end
end Mine
/-! TK -/
namespace Mine
open PySem PySem.W PySem.Calls PyProof.Rows PySem.Spec
theorem zz_TK {P : Nat → Prop} (h : ∃ x, P x) : ∃ x, P x := by first | (w_top off; walk1; fail) | exact h
theorem fill_tk : ∀ (w : World) (h : Heap), (Mine.hd.heap_39 w.params).In h → PySem.Challenge.rw_mq0398_01.row.prog = PySem.Challenge.rw_mq0398_01.row.prog := by
  k_fill
  intros; rfl
section
variable {w : World} {mg mb : Str → Option Value} {mean : ExcName → Option Value} {n : Nat} {A A₀ : Around} {base h₀ : Heap} {env : Env} {outer : List Env} {L : Addr} {s : Shared} {m : Str → Option Value} {news : List (Addr × Obj)}
local macro_rules | `(tactic| walk_at "exec For") => fresh (ruleN "for_stop" "arr_cp" "" false)
local macro_rules | `(tactic| walk_at "call builtin:list.append") => fresh (ruleH "app_L" "aauo_" "h' F' N'" true)
local macro_rules | `(tactic| walk_at "call ref") => fresh (callAt "774")
theorem addLast_length (ts : List (List Nat)) (w : List Nat) (h : ts ≠ []) : (addLast ts w).length = ts.length := by
  unfold addLast
  have := List.length_pos_iff.mpr h
  simp; omega
/-- sizes: tokens are no more than pieces, and no longer than their pieces' words -/
structure TB (ts : List (List Nat)) (n : Nat) : Prop where
  len : ts.length ≤ n
  all : ∀ t ∈ ts, t.length ≤ 2 * n
theorem TB.mono {ts : List (List Nat)} {n k : Nat} (h : TB ts n) (hk : n ≤ k) : TB ts k := ⟨Nat.le_trans h.len hk, fun t ht => by have := h.all t ht; omega⟩
theorem TB.addLast {ts : List (List Nat)} {n : Nat} {w : List Nat} (h : ts.length ≤ n + 1) (ha : ∀ t ∈ ts, t.length ≤ 2 * n) (h0 : ts ≠ []) (hw : w.length ≤ 2) : TB (addLast ts w) (n + 1) := by
  refine ⟨by rw [addLast_length _ _ h0]; exact h, ?_⟩
  intro t ht
  unfold Mine.addLast at ht
  rcases List.mem_append.mp ht with ht | ht
  · have := ha t (by rw [List.dropLast_eq_take] at ht; exact List.mem_of_mem_take ht); omega
  · rw [List.mem_singleton.mp ht, List.length_append]
    have : (ts.getLast?.getD []).length ≤ 2 * n := by
      rw [List.getLast?_eq_some_getLast h0]
      exact ha _ (List.getLast_mem h0)
    omega
theorem TB.step {s : List (List Nat) × Option Int} {n : Nat} {x : Pc} (h : TB s.1 n) (h0 : s.2 ≠ none → s.1 ≠ []) (hw : x.w.length ≤ 2) : TB (tStep s x).1 (n + 1) := by
  unfold tStep
  have hs : ∀ t ∈ s.1 ++ [[]], t.length ≤ 2 * n := fun t ht => by
    rcases List.mem_append.mp ht with ht | ht
    · exact h.all t ht
    · rw [List.mem_singleton.mp ht]; exact Nat.zero_le _
  have hl : (s.1 ++ [[]]).length ≤ n + 1 := by have := h.len; simp; exact this
  cases e : s.2 with
  | none => exact TB.addLast hl hs (by simp) hw
  | some r =>
    dsimp only
    split
    · exact TB.addLast (by have := h.len; omega) h.all (h0 (by rw [e]; simp)) hw
    · exact TB.addLast hl hs (by simp) hw
theorem tStep_ne (s : List (List Nat) × Option Int) (x : Pc) (h0 : s.2 ≠ none → s.1 ≠ []) : (tStep s x).1 ≠ [] := by
  unfold tStep addLast
  simp
theorem TB.fold : ∀ (p : List Pc) {s : List (List Nat) × Option Int} {n : Nat}, TB s.1 n → (s.2 ≠ none → s.1 ≠ []) → (∀ x ∈ p, x.w.length ≤ 2) → TB (p.foldl tStep s).1 (n + p.length)
  | [], _, _, h, _, _ => h
  | x :: p, s, n, h, h0, hw => by
    have := TB.fold p (s := tStep s x) (h.step h0 (hw x (.head _))) (fun _ => tStep_ne s x h0) fun y hy => hw y (.tail _ hy)
    rw [List.foldl_cons, List.length_cons, show n + (p.length + 1) = n + 1 + p.length by omega]
    exact this
theorem TB.parts : ∀ (ps : List (List Pc)) {ts : List (List Nat)} {n : Nat}, TB ts n → (∀ p ∈ ps, ∀ x ∈ p, x.w.length ≤ 2) → TB (ps.foldl tPart ts) (n + (ps.map List.length).sum)
  | [], _, _, h, _ => h
  | p :: ps, ts, n, h, hw => by
    have h1 : TB (tPart ts p) (n + p.length) := TB.fold p (s := (ts, none)) h (fun e => absurd rfl e) (hw p (.head _))
    have := TB.parts ps h1 fun q hq => hw q (.tail _ hq)
    rw [List.foldl_cons, List.map_cons, List.sum_cons, show n + (p.length + (ps.map List.length).sum) = n + p.length + (ps.map List.length).sum by omega]
    exact this
theorem cut_inv (roles : List Int) : ∀ (row : List Pc) (s : List (List Pc) × List Pc), (∀ p ∈ (row.foldl (cutStep roles) s).1 ++ [(row.foldl (cutStep roles) s).2], ∀ x ∈ p, (∃ q ∈ s.1 ++ [s.2], x ∈ q) ∨ x ∈ row) ∧
    (((row.foldl (cutStep roles) s).1 ++ [(row.foldl (cutStep roles) s).2]).map List.length).sum ≤ ((s.1 ++ [s.2]).map List.length).sum + row.length
  | [], s => ⟨fun p hp x hx => .inl ⟨p, hp, hx⟩, Nat.le_refl _⟩
  | y :: row, s => by
    have ih := cut_inv roles row (cutStep roles s y)
    rw [List.foldl_cons, List.length_cons]
    by_cases h : y.r ∈ roles
    · rw [show cutStep roles s y = (s.1 ++ [s.2], []) from if_pos h] at ih ⊢
      refine ⟨fun p hp x hx => ?_, ?_⟩
      · rcases ih.1 p hp x hx with ⟨q, hq, hx⟩ | hx
        · rcases List.mem_append.mp hq with hq | hq
          · exact .inl ⟨q, hq, hx⟩
          · rw [List.mem_singleton.mp hq] at hx; cases hx
        · exact .inr (.tail _ hx)
      · have := ih.2
        simp at this ⊢
        omega
    · rw [show cutStep roles s y = (s.1, s.2 ++ [y]) from if_neg h] at ih ⊢
      refine ⟨fun p hp x hx => ?_, ?_⟩
      · rcases ih.1 p hp x hx with ⟨q, hq, hx⟩ | hx
        · rcases List.mem_append.mp hq with hq | hq
          · exact .inl ⟨q, List.mem_append_left _ hq, hx⟩
          · rw [List.mem_singleton.mp hq] at hx
            rcases List.mem_append.mp hx with hx | hx
            · exact .inl ⟨s.2, List.mem_append_right _ (.head _), hx⟩
            · rw [List.mem_singleton.mp hx]; exact .inr (.head _)
        · exact .inr (.tail _ hx)
      · have := ih.2
        simp at this ⊢
        omega
theorem cut_mem {roles : List Int} {row p : List Pc} (hp : p ∈ cutL roles row) : ∀ x ∈ p, x ∈ row := fun x hx => by
  rcases (cut_inv roles row ([], [])).1 p hp x hx with ⟨q, hq, h⟩ | h
  · simp at hq; subst hq; cases h
  · exact h
theorem cut_sum {roles : List Int} {row : List Pc} : ((cutL roles row).map List.length).sum ≤ row.length := by
  have := (cut_inv roles row ([], [])).2
  simpa [cutL, cutF] using this
theorem sum_take (l : List Nat) (i : Nat) : (l.take i).sum ≤ l.sum := by
  have := congrArg List.sum (List.take_append_drop i l)
  rw [List.sum_append] at this
  omega
theorem tok_bound {row : List Pc} (hw : ∀ x ∈ row, x.w.length ≤ 2) (i : Nat) : TB (((cutL [2] row).take i).foldl tPart []) ((((cutL [2] row).take i).map List.length).sum) := by
  have := TB.parts ((cutL [2] row).take i) (ts := []) (n := 0) ⟨Nat.le_refl _, fun _ h => nomatch h⟩ fun p hp x hx => hw x (cut_mem (List.mem_of_mem_take hp) x hx)
  rwa [Nat.zero_add] at this
theorem all2_snoc {α β : Type} {R : α → β → Prop} : ∀ {xs : List α} {ys : List β} {y : β}, All2 R xs (ys ++ [y]) → ∃ xi x, xs = xi ++ [x] ∧ All2 R xi ys ∧ R x y
  | [], ys, y, h => by have := h.length; simp at this
  | x :: xs, [], y, .cons h r => by cases r; exact ⟨[], x, rfl, .nil, h⟩
  | x :: xs, z :: ys, y, .cons h r => by
    obtain ⟨xi, x', rfl, h1, h2⟩ := all2_snoc r
    exact ⟨x :: xi, x', rfl, .cons h h1, h2⟩
theorem tStep_new {ts : List (List Nat)} {r : Int} {pc : Pc} (h : ((pc.r == 1) != (r == 1)) = true) : (tStep (ts, some r) pc).1 = ts ++ [pc.w] := by
  have h2 : ¬ (decide (pc.r = 1) = decide (r = 1)) := by
    intro e
    have e1 : (pc.r == 1) = decide (pc.r = 1) := rfl
    have e2 : (r == 1) = decide (r = 1) := rfl
    rw [e1, e2, e] at h
    simp at h
  unfold tStep
  dsimp only
  rw [if_neg h2]
  simp [addLast]
theorem tStep_old {ti : List (List Nat)} {u : List Nat} {r : Int} {pc : Pc} (h : ((pc.r == 1) != (r == 1)) = false) : (tStep (ti ++ [u], some r) pc).1 = ti ++ [u ++ pc.w] := by
  have h2 : decide (pc.r = 1) = decide (r = 1) := by
    have e1 : (pc.r == 1) = decide (pc.r = 1) := rfl
    have e2 : (r == 1) = decide (r = 1) := rfl
    rw [← e1, ← e2]
    simpa using h
  unfold tStep
  dsimp only
  rw [if_pos h2]
  simp [addLast]
theorem kn1 {m : Str → Option Value} {a : Str} {x : Value} (ha : m a = some x) : m = kn [(a, x)] m :=
  kn_eq fun p hp => by rw [List.mem_singleton.mp hp]; exact ha
theorem size_okN (k : Nat) : Builtin.Range.rangeSize 0 (k : Int) 1 = (k : Int) := by
  unfold Builtin.Range.rangeSize
  rw [if_pos (by decide)]
  split
  · simp
  · omega
theorem small_okN {k : Nat} (h : k ≤ 1000) : Builtin.Range.small 0 (k : Int) 1 = true := by
  unfold Builtin.Range.small
  rw [size_okN]
  simp [Builtin.Range.rangeFitsLong]
  omega
local macro_rules | `(tactic| walk_at "call builtin:len") => fresh (par [own "here" [], shown "PySem.call (PySem.Value.builtin \"len\") _ _", dflt (lineW true "kun_lenL" "Lry_" "" false)])
noncomputable def ItemAt (xs : List Value) (i : Int) (v : Value) : Prop := 0 ≤ i ∧ i < 2 ^ 63 ∧ xs[i.toNat]? = some v
theorem item_at {prog : Program} {A : Around} {E : Value → Shared → Prop} {value slice : Expr} {l : Addr} {xs : List Value} {i : Int} {v : Value} {u : Tok} {Q : Value → Shared → Prop} (hl : s.heap.IsList l xs.toArray) (hi : ItemAt xs i v) (h : Q v s)
    (hs : subscripted slice false (.ref l) (.int i u) = operate [.ref l, .int i u] (getItem (.ref l) (.int i u)) := by with_unfolding_all rfl) :
    wpAny (model prog w) A (subscriptTail value slice (.ref l) (.int i u)) Q E s :=
  item_listR hl hi.1 hi.2.1 (by simpa using hi.2.2) h hs
local macro_rules | `(tactic| walk_at "subscriptTail") => `(tactic| ((with_reducible show wpAny _ _ (subscriptTail _ _ (Value.ref _) (Value.int _ _)) _ _ _); k_dflt (refine item_at (News.isList (by k_asm) (by k_mem)) (by assumption) ?_)))
local macro_rules | `(tactic| walk_at "subscriptTail Name Name ref int") => `(tactic| ((with_reducible show wpAny _ _ (subscriptTail _ _ (Value.ref _) (Value.int _ _)) _ _ _); k_dflt (refine item_at (News.isList (by k_asm) (by k_mem)) (by assumption) ?_)))
local macro_rules | `(tactic| walk_at "subscriptTail Name BinOp ref int") => `(tactic| ((with_reducible show wpAny _ _ (subscriptTail _ _ (Value.ref _) (Value.int _ _)) _ _ _); k_dflt (refine item_at (News.isList (by k_asm) (by k_mem)) (by assumption) ?_)))
local macro_rules | `(tactic| walk_at "getItem ref int") => `(tactic| ((with_reducible show wpAny _ _ (getItem (Value.ref _) (Value.int _ _)) _ _ _); k_dflt (first | refine getItem_last (News.isList (by k_asm) (by k_mem)) ?_ | refine getItem_lastP (News.isList (by k_asm) (by k_mem)) ?_)))
local macro_rules | `(tactic| walk_at "setItem ref int") => `(tactic| ((with_reducible show wpAny _ _ (setItem (Value.ref _) (Value.int _ _) _) _ _ _); k_dflt (first | refine set_L (by k_asm) (by k_asm) (by k_updF) ?_ | refine set_LP (by k_asm) (by k_asm) (by k_updF) ?_); intro h' n' F' N'; (try k_sweep)))
inductive TokJ (rest : List (Addr × Obj)) (lt : Addr) (ts : List (List Nat)) (m₁ : Str → Option Value) (news₁ : List (Addr × Obj)) : Prop
  | mk (ts' : List (List Nat)) (h0 : ts = ts') (ws : List Value) (c' : Nat) (e : news₁ = (lt, W.listOf (List.toArray ws) c') :: rest) (h1 : All2 (fun v t => ∃ tk, v = .str (Mine.S t) tk) ws ts') (h2 : m₁ (Str.ofString "tokens") = some (.ref lt)) : TokJ rest lt ts m₁ news₁
inductive TokK (rest : List (Addr × Obj)) (lt x : Addr) (o : Obj) (ts : List (List Nat)) (m₁ : Str → Option Value) (news₁ : List (Addr × Obj)) : Prop
  | mk (ts' : List (List Nat)) (h0 : ts = ts') (ws : List Value) (c' : Nat) (e : news₁ = (x, o) :: (lt, W.listOf (List.toArray ws) c') :: rest) (h1 : All2 (fun v t => ∃ tk, v = .str (Mine.S t) tk) ws ts') (h2 : m₁ (Str.ofString "tokens") = some (.ref lt)) (h3 : m₁ (Str.ofString "part") = some (.ref x)) : TokK rest lt x o ts m₁ news₁
theorem tok_spec {R : Result → Shared → Prop} {r : Addr} {vs : List Value} {cr : Nat} {row : List Pc} (a : Amb w mg mb mean (n + 4) A A₀ base h₀ env outer L) (F : Fr h₀ L s.heap m) (N : News h₀ L s.heap news)
    (hr : (r, W.listOf vs.toArray cr) ∈ news) (hrow : All2 (PcAt news) vs row) (hlen : row.length ≤ 900) (hwl : ∀ x ∈ row, x.w.length ≤ 2)
    (k : ∀ l ws c h' tk', Fr h₀ L h' m → News h₀ L h' ((l, W.listOf (List.toArray ws) c) :: news) → All2 (fun v t => ∃ tk, v = .str (Mine.S t) tk) ws (tokensF row) → (∀ p ∈ news, p.1 < l) → R (.ok (.ret (.ref l))) { s with heap := h', toks := tk' }) :
    codeAny (model Challenge.rw_mq0398_01.row.prog w) A (.call (.ref 781) ⟨[.ref r], []⟩) R s := by
  refine' enter a F N ?ho ?hcd ?hb ?hl ?_ ?c1 ?c2 ?c3 ?c4
  case ho => walk_at "ho"
  case hcd => k_is
  case hb => exact BindsTo.of_eq rfl
  case hl => exact locs rfl
  case c1 => exact rfl
  case c2 => exact rfl
  case c3 => exact rfl
  case c4 => decide
  intro g L' h' FG' Am F' N'
  have Am0 := Am
  obtain ⟨B', X', T', hA', hf', hk', hd', hu', hh'⟩ := Am
  (try dsimp only)
  refine no_raise ?_
  refine opaqueQ fun Q9 kQ9 => ?_
  (try k_fold)
  k_steps
  rename Fr _ _ _ _ => F0
  rename News _ _ _ _ => N0
  rename_i lt _ hlt _ D _ hD
  refine by_code (cut_spec (n := n + 1) (nr := news) (roles := [2]) (Am0.less (by omega)) F0 N0 (.tail _ (.tail _ hr)) (.head _) (by repeat constructor) (fun p hp => .tail _ (.tail _ hp)) hrow (by omega) ?_)
  intro l rvs c nw h2 tk2 F2 N2 hparts hnw hnl hnwl
  have hltl : lt ≠ l := Nat.ne_of_lt (hnl _ (.tail _ (.head _)))
  have N3 : News g L' h2 ((lt, W.listOf #[] 0) :: ((l, W.listOf (List.toArray rvs) c) :: (nw ++ news))) := news_sub N2 fun p hp => by
    simp only [List.mem_cons, List.mem_append] at hp ⊢
    rcases hp with h | h | h | h
    · exact .inr (.inr (.inr (.inl h)))
    · exact .inl h
    · exact .inr (.inl h)
    · exact .inr (.inr (.inr (.inr h)))
  clear F0 N0 N2
  dsimp only
  have hlL : L' ≠ l := fun e => (N3 _ (.tail _ (.head _))).2.1 e.symm
  refine iter_listK (vs := rvs.toArray) (fun i => TokJ ((l, W.listOf (List.toArray rvs) c) :: (nw ++ news)) lt (((cutL [2] row).take i).foldl tPart [])) hh' ⟨_, (N3 _ (.tail _ (.head _))).1, rfl, _, rfl⟩ hlL F2 N3 ?_ ?_ ?_
  · exact ⟨_, rfl, [], 0, rfl, .nil, rfl⟩
  · rintro I i v m₁ news₁ own h1 tk1 hv ⟨_, rfl, ws, c', rfl, hws, hp⟩ hoff hown hfp F₁ N₁
    obtain ⟨p, hpp, x, pvs, cp, rfl, hx, hpv⟩ := hparts.get (i := i) (a := v) (by simpa using hv)
    have htk : (cutL [2] row).take (i + 1) = (cutL [2] row).take i ++ [p] := by rw [List.take_add_one, hpp]; rfl
    have hb := tok_bound hwl i
    have hsum : (((cutL [2] row).take i).map List.length).sum + p.length ≤ 900 := by
      have h1 := sum_take ((cutL [2] row).map List.length) (i + 1)
      have h2 := cut_sum (roles := [2]) (row := row)
      rw [← List.map_take, htk, List.map_append, List.sum_append] at h1
      simp only [List.map_cons, List.map_nil, List.sum_cons, List.sum_nil] at h1
      omega
    have hpw : ∀ y ∈ p, y.w.length ≤ 2 := fun y hy => hwl y (cut_mem (List.mem_of_getElem? hpp) y hy)
    have hstep : ((cutL [2] row).take (i + 1)).foldl tPart [] = [p].foldl tPart (((cutL [2] row).take i).foldl tPart []) := by rw [htk, List.foldl_append]
    refine opaqueQ fun Q8 kQ8 => ?_
    generalize ((cutL [2] row).take i).foldl tPart [] = toks at *
    generalize (((cutL [2] row).take i).map List.length).sum = cnt at *
    rw [kn1 hp] at F₁
    have hpl := hpv.length
    have hpz : pvs.length ≤ 900 := by omega
    have hxlt : x ≠ lt := Nat.ne_of_gt (hnw _ hx _ (.tail _ (.head _)))
    simp only [List.cons_append] at N₁
    replace N₁ := news_dup N₁ (p := (x, W.listOf (List.toArray pvs) cp)) (.tail _ (.tail _ (List.mem_append_left _ (List.mem_append_left _ hx))))
    dsimp only at F₁ N₁ ⊢
    clear hp
    (try k_fold)
    k_steps
    rename IsRange _ _ _ _ _ _ _ _ => hR2
    rename Fr _ _ _ _ => F5
    rename News _ _ _ _ => N5
    refine iter_range (n := pvs.length) (fun j => TokK ((l, W.listOf (List.toArray rvs) c) :: (nw ++ news ++ own)) lt x (W.listOf (List.toArray pvs) cp) ((p.take j).foldl tStep (toks, none)).1) hh' hR2 (by rw [List.size_toArray]; exact small_okN (by omega)) (by rw [List.size_toArray]; exact size_okN _) F5 N5 ⟨_, rfl, ws, c', rfl, hws, rfl, rfl⟩ ?_ ?_
    · rintro I2 j v m₂ news₂ own₂ h3 tk3 hj ⟨tv, rfl⟩ ⟨_, rfl, ws₂, c₂, rfl, hws₂, hp2, hp3⟩ hoff2 hown2 hfp2 F₃ N₃
      rw [kn2 hp2 hp3] at F₃
      clear hp2 hp3 F5 N5
      refine opaqueQ fun Q7 kQ7 => ?_
      have hj' : j < p.length := by omega
      obtain ⟨pc, hpc, y, t1, t2, t3, t4, hy, hyn⟩ := hpv.get (i := j) (a := pvs[j]'hj) (List.getElem?_eq_getElem hj)
      have hst : (p.take (j + 1)).foldl tStep (toks, none) = tStep ((p.take j).foldl tStep (toks, none)) pc := by
        rw [List.take_add_one, hpc]; simp
      have hbj := TB.fold (p.take j) (s := (toks, none)) hb (fun e => absurd rfl e) (fun z hz => hpw z (List.mem_of_mem_take hz))
      have hjl : (p.take j).length = j := by simp; omega
      rw [hjl] at hbj
      have hpcw := hpw pc (List.mem_of_getElem? hpc)
      have hwz : (Mine.S pc.w).length ≤ 2 := by simpa [Str.length, Mine.S] using hpcw
      have hwsl := hws₂.length
      have hws2z : ws₂.length ≤ 900 := by have := hbj.len; omega
      have hgj : pvs[j]? = some (.ref y) := by rw [List.getElem?_eq_getElem hj, hy]
      have hylt : y ≠ lt := Nat.ne_of_lt (hlt _ hyn)
      have hllt := hltl.symm
      have hnelt : ∀ q ∈ (nw ++ news ++ own) ++ own₂, q.1 ≠ lt := by
        intro q hq
        rcases List.mem_append.mp hq with hq | hq
        · rcases List.mem_append.mp hq with hq | hq
          · rcases List.mem_append.mp hq with hq | hq
            · exact Nat.ne_of_gt (hnw q hq _ (.tail _ (.head _)))
            · exact Nat.ne_of_lt (hlt q hq)
          · rcases List.mem_cons.mp (hown q hq) with e | e
            · exact fun e2 => hoff _ (.head _) (List.mem_singleton.mpr (e2.symm.trans e))
            · rw [List.mem_singleton.mp e]; exact hllt
        · exact fun e2 => hoff2 _ (.tail _ (.head _)) (e2 ▸ hown2 q hq)
      cases j with
      | zero =>
        rw [List.take_zero, List.foldl_nil] at hws₂ hbj
        simp only [List.cons_append] at N₃
        replace N₃ := news_dup N₃ (p := (y, tupO [.str (S pc.t) t1, .str (S pc.p) t2, .str (S pc.w) t3, .int pc.r t4])) (.tail _ (.tail _ (.tail _ (List.mem_append_left _ (List.mem_append_left _ (List.mem_append_right _ hyn))))))
        have hit : ItemAt pvs (0 + ((0 : Nat) : Int)) (.ref y) := ⟨by decide, by decide, by simpa using hgj⟩
        (try dsimp only at F₃ N₃ ⊢)
        (try k_fold)
        k_steps
        rename Fr _ _ _ _ => F9
        rename News _ _ _ _ => N9
        rename_i t5 _ _ _ n5
        refine kQ7 _ _ ⟨_, _, _, (x, W.listOf (List.toArray pvs) cp) :: (lt, W.listOf (List.toArray (ws₂ ++ [Value.str (Str.ofString "" ++ Mine.S pc.w) t5])) n5) :: (l, W.listOf (List.toArray rvs) c) :: (nw ++ news ++ own), rfl, F9, news_sub N9 ?_, ?_, _, (congrArg Prod.fst hst).trans (show (tStep (toks, none) pc).1 = toks ++ [pc.w] by simp [tStep, addLast]), ws₂ ++ [Value.str (Str.ofString "" ++ Mine.S pc.w) t5], n5, rfl, ?_, rfl, rfl⟩
        · intro q hq
          simp only [List.cons_append] at hq
          exact .tail _ hq
        · intro q hq
          rcases List.mem_cons.mp hq with rfl | hq
          · exact hoff2 _ (.head _)
          · rcases List.mem_cons.mp hq with rfl | hq
            · exact hoff2 (lt, W.listOf (List.toArray ws₂) c₂) (.tail _ (.head _))
            · exact hoff2 q (.tail _ (.tail _ hq))
        · exact hws₂.append (.cons ⟨t5, by rw [lit_nil, S_app]; rfl⟩ .nil)
      | succ j =>
        obtain ⟨pp, hpp2, y2, u1, u2, u3, u4, hy2, hyn2⟩ := hpv.get (i := j) (a := pvs[j]'(by omega)) (List.getElem?_eq_getElem (by omega))
        have hgj2 : pvs[j]? = some (.ref y2) := by rw [List.getElem?_eq_getElem (by omega), hy2]
        have hsn : ((p.take (j + 1)).foldl tStep (toks, none)).2 = some pp.r := by
          rw [List.take_add_one, hpp2]; simp [tStep]
        have hne0 : ((p.take (j + 1)).foldl tStep (toks, none)).1 ≠ [] := by
          rw [List.take_add_one, hpp2]; simp [tStep, addLast]
        generalize (p.take (j + 1)).foldl tStep (toks, none) = st at *
        obtain ⟨tl, sr⟩ := st
        dsimp only at hsn hne0 hbj hws₂ hwsl
        subst hsn
        obtain ⟨ti, u, rfl⟩ : ∃ ti u, tl = ti ++ [u] := ⟨tl.dropLast, tl.getLast hne0, (List.dropLast_concat_getLast hne0).symm⟩
        obtain ⟨xs, xv, rfl, hxs, tu, rfl⟩ := all2_snoc hws₂
        have hul : u.length ≤ 2000 := by have := hbj.all u (by simp); omega
        have huz : (Mine.S u).length ≤ 2000 := by simpa [Str.length, Mine.S] using hul
        simp only [List.cons_append] at N₃
        replace N₃ := news_dup N₃ (p := (y, tupO [.str (S pc.t) t1, .str (S pc.p) t2, .str (S pc.w) t3, .int pc.r t4])) (.tail _ (.tail _ (.tail _ (List.mem_append_left _ (List.mem_append_left _ (List.mem_append_right _ hyn))))))
        replace N₃ := news_dup N₃ (p := (y2, tupO [.str (S pp.t) u1, .str (S pp.p) u2, .str (S pp.w) u3, .int pp.r u4])) (.tail _ (.tail _ (.tail _ (.tail _ (List.mem_append_left _ (List.mem_append_left _ (List.mem_append_right _ hyn2)))))))
        have hit : ItemAt pvs (0 + ((j + 1 : Nat) : Int)) (.ref y) := ⟨by omega, by omega, by rw [show (0 + ((j + 1 : Nat) : Int)).toNat = j + 1 by omega]; exact hgj⟩
        have hit2 : ItemAt pvs (0 + ((j + 1 : Nat) : Int) - 1) (.ref y2) := ⟨by omega, by omega, by rw [show (0 + ((j + 1 : Nat) : Int) - 1).toNat = j by omega]; exact hgj2⟩
        have hk0 : (0 + ((j + 1 : Nat) : Int)) ≠ 0 := by omega
        have hy2lt : y2 ≠ lt := Nat.ne_of_lt (hlt _ hyn2)
        (try dsimp only at F₃ N₃ ⊢)
        (try k_fold)
        k_steps
        · exfalso; rename _ = (0 : Int) => hz0; omega
        · rename Fr _ _ _ _ => F9
          rename News _ _ _ _ => N9
          rename (_ != _) = true => hbb
          rename_i t5 _ _ _ n5
          refine kQ7 _ _ ⟨_, _, _, (x, W.listOf (List.toArray pvs) cp) :: (lt, W.listOf (List.toArray ((xs ++ [Value.str (Mine.S u) tu]) ++ [Value.str (Str.ofString "" ++ Mine.S pc.w) t5])) n5) :: (l, W.listOf (List.toArray rvs) c) :: (nw ++ news ++ own), rfl, F9, news_sub N9 ?_, ?_, _, (congrArg Prod.fst hst).trans (tStep_new hbb), (xs ++ [Value.str (Mine.S u) tu]) ++ [Value.str (Str.ofString "" ++ Mine.S pc.w) t5], n5, rfl, ?_, rfl, rfl⟩
          · intro q hq
            simp only [List.cons_append] at hq
            exact .tail _ (.tail _ hq)
          · intro q hq
            rcases List.mem_cons.mp hq with rfl | hq
            · exact hoff2 _ (.head _)
            · rcases List.mem_cons.mp hq with rfl | hq
              · exact hoff2 (lt, W.listOf (List.toArray (xs ++ [Value.str (Mine.S u) tu])) c₂) (.tail _ (.head _))
              · exact hoff2 q (.tail _ (.tail _ hq))
          · exact (hxs.append (.cons ⟨tu, rfl⟩ .nil)).append (.cons ⟨t5, by rw [lit_nil, S_app]; rfl⟩ .nil)
        · rename Fr _ _ _ _ => F9
          rename News _ _ _ _ => N9
          rename (_ != _) = false => hbb
          rename_i t5 _ _ _ n5
          refine kQ7 _ _ ⟨_, _, _, (x, W.listOf (List.toArray pvs) cp) :: (lt, W.listOf (List.toArray (xs ++ [Value.str (Mine.S u ++ Mine.S pc.w) t5])) n5) :: (l, W.listOf (List.toArray rvs) c) :: (nw ++ news ++ own), rfl, F9, news_sub N9 ?_, ?_, _, (congrArg Prod.fst hst).trans (tStep_old hbb), xs ++ [Value.str (Mine.S u ++ Mine.S pc.w) t5], n5, rfl, ?_, rfl, rfl⟩
          · intro q hq
            simp only [List.cons_append] at hq
            exact .tail _ (.tail _ hq)
          · intro q hq
            rcases List.mem_cons.mp hq with rfl | hq
            · exact hoff2 _ (.head _)
            · rcases List.mem_cons.mp hq with rfl | hq
              · exact hoff2 (lt, W.listOf (List.toArray (xs ++ [Value.str (Mine.S u) tu])) c₂) (.tail _ (.head _))
              · exact hoff2 q (.tail _ (.tail _ hq))
          · exact hxs.append (.cons ⟨t5, by rw [S_app]⟩ .nil)
    · rintro h3 tk3 m₂ news₂ F₃ N₃ ⟨_, rfl, ws₂, c₂, rfl, hws₂, hp2, hp3⟩
      rw [kn2 hp2 hp3] at F₃
      clear hp2 hp3 F5 N5
      rw [hpl, List.take_length] at hws₂
      (try dsimp only)
      (try k_fold)
      k_steps
      refine kQ8 _ _ ⟨_, _, _, (lt, W.listOf (List.toArray ws₂) c₂) :: ((l, W.listOf (List.toArray rvs) c) :: (nw ++ news)), rfl, F₃, news_sub N₃ ?_, ?_, _, hstep, ws₂, c₂, rfl, hws₂, rfl⟩
      · intro q hq
        simp only [List.cons_append] at hq
        exact .tail _ hq
      · intro q hq
        rcases List.mem_cons.mp hq with rfl | hq
        · exact hoff (lt, W.listOf (List.toArray ws) c') (.head _)
        · exact hoff q (.tail _ hq)
  · rintro h1 tk1 m₁ news₁ F₁ N₁ ⟨_, rfl, ws, c', rfl, hws, hp⟩
    rw [List.size_toArray, hparts.length, List.take_length] at hws
    rw [kn1 hp] at F₁
    clear hp
    (try dsimp only)
    (try k_fold)
    k_steps
    (try dsimp only)
    refine kQ9 _ _ ?_
    refine leaveK_ F₁ N₁ (fun F1 N1 => k lt ws c' _ _ F1 (news_sub N1 fun p hp => ?_) hws hlt)
    rcases List.mem_cons.mp hp with rfl | hp
    · exact .head _
    · exact .tail _ (.tail _ (List.mem_append_right _ hp))
end
end Mine
/-! AL -/
namespace Mine
open PySem PySem.W PySem.Calls PyProof.Rows PySem.Spec

theorem strs_of {f : List Nat → Str} : ∀ {vs : List Value} {ps : List (List Nat)}, All2 (fun v p => ∃ t, v = .str (f p) t) vs ps → StrsAre vs (ps.map f)
  | _, _, .nil => .nil
  | _, _, .cons ⟨t, e⟩ r => by subst e; exact .cons _ t (strs_of r)
theorem strs_get : ∀ {vs : List Value} {xs : List Str}, StrsAre vs xs → ∀ {i : Nat} {v : Value}, vs[i]? = some v → ∃ x t, xs[i]? = some x ∧ v = .str x t
  | _, _, .nil, i, v, h => by simp at h
  | _, _, .cons y t r, 0, v, h => by simp at h; exact ⟨y, t, rfl, h.symm⟩
  | _, _, .cons y t r, i + 1, v, h => by obtain ⟨x, t, h1, h2⟩ := strs_get r (i := i) (v := v) (by simpa using h); exact ⟨x, t, by simpa using h1, h2⟩
theorem strs_len : ∀ {vs : List Value} {xs : List Str}, StrsAre vs xs → vs.length = xs.length
  | _, _, .nil => rfl
  | _, _, .cons _ _ r => by rw [List.length_cons, List.length_cons, strs_len r]
theorem eqs_at {A : Around} {s : Shared} {vs us : List Value} {xs : List Str} (hv : StrsAre vs xs) (hu : StrsAre us xs) :
    ∀ j (h1 : j < vs.toArray.size) (h2 : j < us.toArray.size), SeqAt.EqAt A s vs.toArray[j] us.toArray[j] true := fun j h1 h2 => by
  obtain ⟨x, t, e1, e2⟩ := strs_get hv (i := j) (v := vs.toArray[j]) (by simp)
  obtain ⟨y, u, e3, e4⟩ := strs_get hu (i := j) (v := us.toArray[j]) (by simp)
  rw [e2, e4]
  rw [e1] at e3
  injection e3 with e3
  subst e3
  have := SeqAt.EqAt.str_str (A := A) (s := s) x t x u
  rwa [beq_self_eq_true] at this
theorem all_tt (n : Nat) : (List.range n).all (fun _ => true) = true := by simp
section
variable {prog : Program} {w : World} {A : Around} {E : Value → Shared → Prop} {s : Shared} {Q : Value → Shared → Prop}
theorem ne_strs {l b : Addr} {vs us : List Value} {xs : List Str} (hl : s.heap.IsList l vs.toArray) (hb : s.heap.IsList b us.toArray) (hv : StrsAre vs xs) (hu : StrsAre us xs) (hz : A.units < cLine) (h : Q (.bool false) s) :
    wpAny (model prog w) A (compareOp .NotEq (.ref l) (.ref b)) Q E s :=
  SeqAt.RcNeAt.lists (e := fun _ => true) hl hb (by rw [List.size_toArray, List.size_toArray, strs_len hv, strs_len hu]) hz (eqs_at hv hu) prog w E Q (by rw [all_tt]; exact h)
theorem ne_nil {l b : Addr} {vs : List Value} (hl : s.heap.IsList l vs.toArray) (hb : s.heap.IsList b #[]) (hz : A.units < cLine) (h : Q (.bool (!vs.isEmpty)) s) :
    wpAny (model prog w) A (compareOp .NotEq (.ref l) (.ref b)) Q E s := by
  cases vs with
  | nil => exact SeqAt.RcNeAt.lists (e := fun _ => true) hl hb rfl hz (fun j h1 _ => by simp at h1) prog w E Q h
  | cons v r => exact SeqAt.RcNeAt.lists_lengths hl hb (by simp [bne]) hz prog w E Q h
/-- (words, fault) == (words, fault) -/
theorem eq_told {l b d1 d2 : Addr} {vs us : List Value} {xs : List Str} {f : Str} {t u : Tok} (h1 : s.heap.IsTuple l #[.ref d1, .str f t]) (h2 : s.heap.IsTuple b #[.ref d2, .str f u]) (hd1 : s.heap.IsList d1 vs.toArray) (hd2 : s.heap.IsList d2 us.toArray) (hne : d1 ≠ d2)
    (hv : StrsAre vs xs) (hu : StrsAre us xs) (hz : A.units + 64 < cLine) (h : Q (.bool true) s) :
    wpAny (model prog w) A (compareOp .Eq (.ref l) (.ref b)) Q E s := by
  refine SeqAt.eq_tupleAt (e := fun _ => true) h1 h2 (by omega) (fun j q1 q2 => ?_) (by show Q (.bool ((List.range 2).all (fun _ => true) && true)) s; exact h)
  match j, q1, q2 with
  | 0, _, _ =>
    refine SeqAt.EqAt.of_refs hne ?_
    have := SeqAt.RcAt.lists (A := A.in1) (e := fun _ => true) hd1 hd2 (by rw [List.size_toArray, List.size_toArray, strs_len hv, strs_len hu]) (by rw [Around.in1_units]; omega) (eqs_at hv hu)
    rwa [all_tt] at this
  | 1, _, _ =>
    have := SeqAt.EqAt.str_str (A := A.in1) (s := s) f t f u
    rwa [beq_self_eq_true] at this
end
theorem join_S (ps : List (List Nat)) : Txt.join (Str.ofString "") (ps.map Mine.S) = Mine.S ps.flatten := by
  have key : ∀ (r : List (List Nat)) (a : Array Nat), (r.map Mine.S).foldl (fun acc p => acc ++ (Str.ofString "").cps ++ p.cps) a = a ++ r.flatten.toArray := by
    intro r
    induction r with
    | nil => intro a; simp
    | cons x r ih =>
      intro a
      rw [List.map_cons, List.foldl_cons, ih]
      have e : (Str.ofString "").cps = #[] := by decide +kernel
      rw [e]
      simp [Mine.S]
  show Builtin.Str.glued _ _ = _
  unfold Builtin.Str.glued
  cases ps with
  | nil => rfl
  | cons x r =>
    have := key r x.toArray
    show Str.mk _ = _
    rw [List.map_cons, List.drop_one, List.tail_cons, List.headD_cons, this]
    simp [Mine.S]
theorem sum_lens (ps : List (List Nat)) : ((ps.map Mine.S).map (·.length)).sum = ps.flatten.length := by
  induction ps with
  | nil => rfl
  | cons x r ih => simp only [List.map_cons, List.sum_cons, List.flatten_cons, List.length_append, ih]; simp [Str.length, Mine.S]
theorem join_L {prog : Program} {w : World} {A : Around} {E : Value → Shared → Prop} {s : Shared} {Q : Value → Shared → Prop} {t : Tok} {D : Addr} {vs : List Value} {ps : List (List Nat)} (hl : s.heap.IsList D vs.toArray) (hv : All2 (fun v p => ∃ t, v = .str (Mine.S p) t) vs ps) (hz : ps.flatten.length ≤ 10000)
    (h : ∀ t' k, Q (.str (Mine.S ps.flatten) t') { s with toks := k }) : wpAny (model prog w) A (call (.builtin "str.join") [.str (Str.ofString "") t, .ref D]) Q E s := by
  refine join_list (ys := ps.map Mine.S) hl (strs_of hv) ?_ fun t' k => ?_
  · have e : (Str.ofString "").length = 0 := by decide +kernel
    rw [sum_lens, e]
    omega
  · rw [join_S]; exact h t' k
theorem kl_last_snoc : ∀ (xs : List Value) (v : Value), kl_last (xs ++ [v]) = some (xs, v)
  | [], v => rfl
  | x :: xs, v => by
    show kl_last (x :: (xs ++ [v])) = _
    unfold kl_last
    rw [kl_last_snoc xs v]
/-- small pieces -/
noncomputable def SmP (x : Pc) : Prop := x.t.length ≤ 2 ∧ x.p.length ≤ 2 ∧ x.w.length ≤ 2
theorem pie_sm {b b' : Bool} {x : Pc} (h : Pie b x b') : SmP x := by
  cases h <;> (refine ⟨?_, ?_, ?_⟩ <;> simp)
theorem good_sm {b b' : Bool} {row : List Pc} (h : Good b row b') : ∀ x ∈ row, SmP x := by
  induction h with
  | nil => intro x hx; cases hx
  | one h _ ih =>
    intro x hx
    rcases List.mem_cons.mp hx with rfl | hx
    · exact pie_sm h
    · exact ih x hx
  | escc _ ih =>
    intro x hx
    rcases List.mem_cons.mp hx with rfl | hx
    · exact ⟨by decide, by decide, by decide⟩
    · rcases List.mem_cons.mp hx with rfl | hx
      · exact ⟨by decide, by decide, by decide⟩
      · exact ih x hx
theorem whole_sm {row : List Pc} {e : Option Bool} (h : Whole row e) : ∀ x ∈ row, SmP x := by
  cases h with
  | fine g => exact good_sm g
  | quo g => exact good_sm g
  | escO g =>
    intro x hx
    rcases List.mem_append.mp hx with hx | hx
    · exact good_sm g x hx
    · rw [List.mem_singleton.mp hx]; exact ⟨by decide, by decide, by decide⟩
  | escI g =>
    intro x hx
    rcases List.mem_append.mp hx with hx | hx
    · exact good_sm g x hx
    · rw [List.mem_singleton.mp hx]; exact ⟨by decide, by decide, by decide⟩
theorem flat_le {f : Pc → List Nat} : ∀ {row : List Pc}, (∀ x ∈ row, (f x).length ≤ 2) → (row.map f).flatten.length ≤ 2 * row.length
  | [], _ => Nat.le_refl _
  | x :: r, h => by
    have h1 := h x (.head _)
    have h2 := flat_le (f := f) (row := r) fun y hy => h y (.tail _ hy)
    simp only [List.map_cons, List.flatten_cons, List.length_append, List.length_cons] at h2 ⊢
    omega
theorem len_le_sum : ∀ {l : List (List Pc)} {p : List Pc}, p ∈ l → p.length ≤ (l.map List.length).sum
  | x :: l, p, h => by
    rw [List.map_cons, List.sum_cons]
    rcases List.mem_cons.mp h with rfl | h
    · omega
    · have := len_le_sum h; omega
theorem cut_lenR {roles : List Int} {row p : List Pc} (h : p ∈ cutL roles row) : p.length ≤ row.length := Nat.le_trans (len_le_sum h) cut_sum
theorem cut_len13 {row p : List Pc} (h : p ∈ cutL [1, 3] row) : p.length ≤ row.length := cut_lenR h
theorem join_len {row p : List Pc} {roles : List Int} (hs : ∀ x ∈ row, SmP x) (h : p ∈ cutL roles row) : (joinP p).length ≤ 2 * row.length := by
  have h1 := flat_le (f := Pc.p) (row := p) fun x hx => (hs x (cut_mem h x hx)).2.1
  have h2 := cut_lenR h
  show (p.map Pc.p).flatten.length ≤ _
  omega
theorem items_len {row : List Pc} (hs : ∀ x ∈ row, SmP x) : ∀ p ∈ itemsF row, p.length ≤ 2 * row.length := by
  have key : ∀ p ∈ (cutL [1, 3] row).map joinP, p.length ≤ 2 * row.length := fun p hp => by
    obtain ⟨q, hq, rfl⟩ := List.mem_map.mp hp
    exact join_len hs hq
  have e : (cutL [1, 3] row).map joinP = (cutF [1, 3] row).1.map joinP ++ [joinP (cutF [1, 3] row).2] := by unfold cutL; rw [List.map_append]; rfl
  rw [e] at key
  intro p hp
  unfold itemsF at hp
  dsimp only at hp
  split at hp
  · exact key p (List.mem_append_left _ hp)
  · exact key p hp
theorem items_count (row : List Pc) : (itemsF row).length ≤ (cutL [1, 3] row).length := by
  unfold itemsF cutL
  dsimp only
  split <;> simp
theorem all2_map {α β γ : Type} {R : α → γ → Prop} {f : β → γ} : ∀ {xs : List α} {ys : List β}, All2 (fun x y => R x (f y)) xs ys → All2 R xs (ys.map f)
  | _, _, .nil => .nil
  | _, _, .cons h r => .cons h (all2_map r)
theorem tok_len {row : List Pc} {n : Nat} (h : row.length ≤ 200) (hs : ∀ x ∈ row, SmP x) (hn : n + 1 = (tokensF row).length) : n ≤ 900 := by
  have h1 := (tok_bound (fun x hx => (hs x hx).2.2) (cutL [2] row).length).len
  rw [List.take_length] at h1
  have h2 := cut_sum (roles := [2]) (row := row)
  have h3 : (tokensF row).length ≤ ((cutL [2] row).map List.length).sum := h1
  omega
theorem cut_count (roles : List Int) (row : List Pc) : (cutL roles row).length ≤ row.length + 1 := by
  have key : ∀ (row : List Pc) (s : List (List Pc) × List Pc), (row.foldl (cutStep roles) s).1.length ≤ s.1.length + row.length := by
    intro row
    induction row with
    | nil => intro s; exact Nat.le_refl _
    | cons y row ih =>
      intro s
      rw [List.foldl_cons, List.length_cons]
      refine Nat.le_trans (ih _) ?_
      unfold cutStep
      split
      · simp; omega
      · dsimp only; omega
  have := key row ([], [])
  unfold cutL cutF
  simpa using this
section
variable {w : World} {h₀ : Heap} {L : Addr} {s : Shared} {m : Str → Option Value} {news : List (Addr × Obj)}
theorem fr_words {g h : Heap} {Dw tx fl tk : Value} (F : Fr g L h (fun y => if y = Str.ofString "words" then some Dw else m y)) (e1 : m (Str.ofString "text") = some tx) (e2 : m (Str.ofString "fault") = some fl) (e3 : m (Str.ofString "tokens") = some tk) :
    Fr g L h (kn [(Str.ofString "text", tx), (Str.ofString "fault", fl), (Str.ofString "words", Dw), (Str.ofString "tokens", tk)] (fun y => if y = Str.ofString "words" then some Dw else m y)) := by
  have q := kn4 (m := fun y => if y = Str.ofString "words" then some Dw else m y) (a := Str.ofString "text") (b := Str.ofString "fault") (c := Str.ofString "words") (d := Str.ofString "tokens") (x := tx) (y := fl) (z := Dw) (u := tk)
    ((if_neg (by decide +kernel)).trans e1) ((if_neg (by decide +kernel)).trans e2) (if_pos rfl) ((if_neg (by decide +kernel)).trans e3)
  rw [← q]
  exact F
theorem comp_restT {A : Around} {ct elt : Expr} {x : Str} {scope : Scope} {cl : List (Str × Addr)} {S : List (Addr × Obj) → Prop} {its : List Value} {β : Type} {ps : List β} {kp : β → Bool} {G : β → Value → Prop} {Fin : List Value → List (Addr × Obj) → Prop} {prog : Program} {env : Env} (hS : S news) (hlen : its.length = ps.length)
    (test : ∀ (i : Nat) v q I oI C oC D m₂ ys h tk (E' : Value → Shared → Prop), its[i]? = some v → ps[i]? = some q → LCg.NsObj oC m₂ → m₂ x = some v → Fr h₀ L h m → News h₀ L h ((I, oI) :: (C, oC) :: (D, LCg.lst ys) :: news) → LCg.Off3 I C D news → ((@Ne Nat I C) ∧ (@Ne Nat I D) ∧ (@Ne Nat C D)) →
      wpAny (model prog w) A (isTrue ct (compEnvC scope cl C env) (eval ct (compEnvC scope cl C env))) (fun ok s₂ => ok = kp q ∧ ∃ h' tk', s₂ = { s with heap := h', toks := tk' } ∧ Fr h₀ L h' m ∧ News h₀ L h' ((I, oI) :: (C, oC) :: (D, LCg.lst ys) :: news)) E' { s with heap := h, toks := tk })
    (turn : ∀ (i : Nat) v q I oI C oC D m₂ ys h tk (E' : Value → Shared → Prop), its[i]? = some v → ps[i]? = some q → kp q = true → LCg.NsObj oC m₂ → m₂ x = some v → Fr h₀ L h m → News h₀ L h ((I, oI) :: (C, oC) :: (D, LCg.lst ys) :: news) → LCg.Off3 I C D news → ((@Ne Nat I C) ∧ (@Ne Nat I D) ∧ (@Ne Nat C D)) →
      wpAny (model prog w) A (eval elt (compEnvC scope cl C env)) (fun y s₂ => ∃ h' tk', s₂ = { s with heap := h', toks := tk' } ∧ Fr h₀ L h' m ∧ News h₀ L h' ((I, oI) :: (C, oC) :: (D, LCg.lst ys) :: news) ∧ G q y) E' { s with heap := h, toks := tk })
    (fin : ∀ ys, All2 (fun y q => G q y) ys (ps.filter kp) → Fin ys news) :
    LCt.CompRestT prog w A h₀ L m env ct elt x scope cl s S (fun i v => its.toArray[i]? = some v) Fin its.toArray.size 0 [] news := by
  have key : ∀ (j i : Nat) (ys : List Value), i + j = its.length → All2 (fun y q => G q y) ys ((ps.take i).filter kp) → LCt.CompRestT prog w A h₀ L m env ct elt x scope cl s S (fun i v => its.toArray[i]? = some v) Fin j i ys news := by
    intro j
    induction j with
    | zero =>
      intro i ys hi hg
      refine LCt.CompRestT.zero (fin ys ?_)
      rwa [List.take_of_length_le (by omega)] at hg
    | succ j ih =>
      intro i ys hi hg
      refine LCt.CompRestT.succ ?_
      intro v I oI C oC D m₂ h tk E' hv hC hx F N off ne
      have hv' : its[i]? = some v := by simpa using hv
      obtain ⟨q, hq⟩ : ∃ q, ps[i]? = some q := ⟨ps[i]'(by omega), List.getElem?_eq_getElem _⟩
      have ht : ps.take (i + 1) = ps.take i ++ [q] := by rw [List.take_add_one, hq]; rfl
      refine wpAny_mono (test i v q I oI C oC D m₂ ys h tk E' hv' hq hC hx F N off ne) (fun ok s₂ hk => ?_) fun _ _ e => e
      obtain ⟨e, h', tk', rfl, F', N'⟩ := hk
      cases hkq : kp q with
      | true =>
        rw [e, hkq, if_pos rfl]
        refine wpAny_mono (turn i v q I oI C oC D m₂ ys h' tk' E' hv' hq hkq hC hx F' N' off ne) (fun y s₃ h3 => ?_) fun _ _ e => e
        obtain ⟨h'', tk'', rfl, F'', N'', hy⟩ := h3
        refine ⟨h'', tk'', news, rfl, F'', N'', off, hS, ih (i + 1) (ys ++ [y]) (by omega) ?_⟩
        rw [ht, List.filter_append, List.filter_cons_of_pos hkq, List.filter_nil]
        exact hg.append (.cons hy .nil)
      | false =>
        rw [e, hkq, if_neg (by decide)]
        refine ⟨h', tk', news, rfl, F', N', off, hS, ih (i + 1) ys (by omega) ?_⟩
        rw [ht, List.filter_append, List.filter_cons_of_neg (by rw [hkq]; decide), List.filter_nil, List.append_nil]
        exact hg
  rw [List.size_toArray]
  exact key _ 0 [] (by omega) .nil
end
end Mine
/-! AG -/
namespace Mine
open PySem PySem.W PySem.Calls PyProof.Rows PySem.Spec
theorem zz_AG {P : Nat → Prop} (h : ∃ x, P x) : ∃ x, P x := by first | (w_top off; walk1; fail) | exact h
theorem fill_ag : ∀ (w : World) (h : Heap), (Mine.hd.heap_39 w.params).In h → PySem.Challenge.rw_mq0398_01.row.prog = PySem.Challenge.rw_mq0398_01.row.prog := by
  k_fill
  intros; rfl
noncomputable def fltE (e : Option Bool) : Str := match e with
  | none => Str.ofString ""
  | some b => faultOf b
/-- the walker stops here -/
noncomputable def AtMid (P : Prop) : Prop := P
section
variable {w : World} {mg mb : Str → Option Value} {mean : ExcName → Option Value} {n : Nat} {A A₀ : Around} {base h₀ : Heap} {cn : Str} {cs : Scope} {ca : Addr} {ccd : Value} {L : Addr} {s : Shared} {m : Str → Option Value} {news : List (Addr × Obj)}
local macro_rules | `(tactic| walk_at "eval ListComp") => fresh (go "at_c")
local macro_rules | `(tactic| walk_at "exec Assign cons ListComp") => fresh (go "at_c")
local macro_rules | `(tactic| walk_at "exec If") => fresh (go "at_c")
local macro_rules | `(tactic| walk_at "call builtin:str.join") => fresh (goH "at_tree")
local macro_rules | `(tactic| walk_at "call ref") => fresh (callAt "774")
local macro_rules | `(tactic| walk_at "call ref") => fresh (callAt "781")
local macro_rules | `(tactic| walk_at "call ref") => fresh (callAt "44")
local macro_rules | `(tactic| walk_at "call ref") => fresh (callAt "788")
local macro_rules | `(tactic| walk_at "call ref") => fresh (callAt "795")
local macro_rules | `(tactic| walk_at "compareOp Eq ref ref") => fresh (goH "at_tree")
local macro_rules | `(tactic| walk_at "compareOp NotEq ref ref") => fresh (goH "at_tree")

local macro_rules | `(tactic| walk_at "subscriptTail") => `(tactic| ((with_reducible show wpAny _ _ (subscriptTail _ _ (Value.ref _) (Value.int (-1) _)) _ _ _); k_dflt (refine item_last (News.isList (by k_asm) (by k_mem)) ?_)))
local macro_rules | `(tactic| walk_at "call builtin:list.pop") => `(tactic| (k_here; refine' kl_pop ?F ?N (kl_last_snoc _ _) ?U ?z ?_; (case F => k_asm); (case N => k_asm); (case U => k_upd); (case z => (simp [sizeLine]; omega)); intro h' F' N'; (try k_sweep)))
theorem enterS0 {R : Result → Shared → Prop} {name qual : Str} {params : Arguments} {body : List Stmt} {scope : Scope} {dV kV doc pm cdv ct oc : Value} {an od : Option Addr} {osl : Array (Option Value)} {f : Addr} {args : Args} {binds : List (Str × Value)}
    (a : AmbS w mg mb mean (n + 1) A A₀ base h₀ cn cs ca ccd [] L) (F : Fr h₀ L s.heap m) (N : News h₀ L s.heap news)
    (ho : (Mine.hd.heap_39 w.params).lookup f = some ⟨oc, od, .func (fnOf name qual params body scope dV kV doc pm an cdv ct), osl⟩) (hcd : codeIn (Mine.hd.heap_39 w.params) cdv qual = true)
    (hbind : BindsTo s (fnOf name qual params body scope dV kV doc pm an cdv ct) args binds) (hloc : ∀ y ∈ binds, scope.names.lookup y.1 = some .local)
    (h : ∀ g L' h₁, Fr h₀ L g m → AmbS w mg mb mean n (A.deeper (envOf qual scope L' f cdv)) A base g qual scope f cdv [envOf cn cs L ca ccd] L' → Fr g L' h₁ (fun y => binds.reverse.lookup y) → News g L' h₁ news →
      wpAny (model Challenge.rw_mq0398_01.row.prog w) (A.deeper (envOf qual scope L' f cdv)) (execs body (envOf qual scope L' f cdv))
        (fun fl s' => LeaveS0 ([envOf cn cs L ca ccd].filterMap (·.frame)) h₀ L m g R (match fl with | .ret v => v | _ => .none) s')
        (fun e s' => wpAny (model Challenge.rw_mq0398_01.row.prog w) (A.deeper (envOf qual scope L' f cdv)) (leaving (envOf qual scope L' f cdv) e) (fun _ s'' => R (.error e) s'') (fun e' s'' => R (.error e') s'') s')
        { s with heap := h₁, toks := s.toks + binds.length })
    (hco : scope.isCoroutine = false) (hgen : scope.isGenerator = false) (hk : scope.kind = .function)
    (hcell : ∀ x ∈ scope.names, x.2 ≠ .cell) : codeAny (model Challenge.rw_mq0398_01.row.prog w) A (.call (.ref f) args) R s :=
  code_defS0 a.am.B F a.am.X N a.am.T a.am.hA ho hcd (by have := a.am.hd; unfold recursionLimit; omega) hbind hloc
    (fun g L' h₁ FG F' N' B' X' T' D' => h g L' h₁ FG ⟨⟨B', X', T', Around.frames_deeper a.am.hA, rfl, hk, by have := a.am.hd; show A.depth + 1 + n < 999; omega, by have := a.am.hu; show A.units + 3 + 20 * n < 9900; omega, a.am.hh⟩, a.XB, a.TB, D'⟩ F' N') a.am.hk hco hgen hk hcell

local macro_rules | `(tactic| walk_at "execs cons") => fresh oneStmt
theorem name2 {P : Prop} {g h : Heap} {L : Addr} {m : Str → Option Value} {a b : Str} {x y : Value} (F : Fr g L h m) (ha : m a = some x) (hb : m b = some y) (k : ∀ m0, Fr g L h (kn [(a, x), (b, y)] m0) → P) : P := k m (kn2 ha hb ▸ F)
theorem name3 {P : Prop} {g h : Heap} {L : Addr} {m : Str → Option Value} {a b c : Str} {x y z : Value} (F : Fr g L h m) (ha : m a = some x) (hb : m b = some y) (hc : m c = some z) (k : ∀ m0, Fr g L h (kn [(a, x), (b, y), (c, z)] m0) → P) : P := k m (kn3 ha hb hc ▸ F)
theorem name4 {P : Prop} {g h : Heap} {L : Addr} {m : Str → Option Value} {a b c d : Str} {x y z u : Value} (F : Fr g L h m) (ha : m a = some x) (hb : m b = some y) (hc : m c = some z) (hd : m d = some u) (k : ∀ m0, Fr g L h (kn [(a, x), (b, y), (c, z), (d, u)] m0) → P) : P := k m (kn4 ha hb hc hd ▸ F)
inductive AgItems (s : Shared) (g : Heap) (L' : Addr) (l : List (Str × Value)) (m2 : Str → Option Value) (news : List (Addr × Obj)) (D2 : Addr) (row : List Pc) (f : Flow) (s2 : Shared) : Prop
  | mk (hf : f = .next) (h' : Heap) (tk' : Nat) (xs' : List Value) (c' : Nat) (e : s2 = { s with heap := h', toks := tk' }) (F : Fr g L' h' (kn l m2)) (N : News g L' h' ((D2, W.listOf (List.toArray xs') c') :: news)) (h : All2 (fun v p => ∃ t, v = Value.str (Mine.S p) t) xs' (itemsF row)) : AgItems s g L' l m2 news D2 row f s2
inductive AgToks (s : Shared) (g : Heap) (L' : Addr) (l : List (Str × Value)) (news : List (Addr × Obj)) (lt : Addr) (ws ts : List (List Nat)) (f : Flow) (s2 : Shared) : Prop
  | mk (hf : f = .next) (h' : Heap) (tk' : Nat) (Dw : Addr) (vw : List Value) (cw : Nat) (vt : List Value) (ct : Nat) (m6 : Str → Option Value) (e : s2 = { s with heap := h', toks := tk' }) (F : Fr g L' h' (kn (l ++ [(Str.ofString "words", Value.ref Dw), (Str.ofString "tokens", Value.ref lt)]) m6))
    (N : News g L' h' ((lt, W.listOf (List.toArray vt) ct) :: (Dw, W.listOf (List.toArray vw) cw) :: news)) (h1 : All2 (fun v p => ∃ t, v = Value.str (Mine.S p) t) vw ws) (h2 : All2 (fun v p => ∃ t, v = Value.str (Mine.S p) t) vt ts) : AgToks s g L' l news lt ws ts f s2
theorem agrees_spec {R : Result → Shared → Prop} {r : Addr} {vs : List Value} {cr : Nat} {row : List Pc} {e : Option Bool} {flt : Str} {tf : Tok} (a : AmbS w mg mb mean (n + 23) A A₀ base h₀ cn cs ca ccd [] L) (F : Fr h₀ L s.heap m) (N : News h₀ L s.heap news)
    (hr : (r, W.listOf vs.toArray cr) ∈ news) (hrow : All2 (PcAt news) vs row) (hlen : row.length ≤ 200) (hW : Whole row e) (hflt : flt = fltE e)
    (k : ∀ h' tk', Fr h₀ L h' m → News h₀ L h' news → R (.ok (.ret (.bool true))) { s with heap := h', toks := tk' }) :
    codeAny (model Challenge.rw_mq0398_01.row.prog w) A (.call (.ref 800) ⟨[.ref r, .str flt tf], []⟩) R s := by
  refine' enterS0 a F N ?ho ?hcd ?hb ?hl ?_ ?c1 ?c2 ?c3 ?c4
  case ho => walk_at "ho"
  case hcd => k_is
  case hb => exact BindsTo.of_eq rfl
  case hl => exact locs rfl
  case c1 => exact rfl
  case c2 => exact rfl
  case c3 => exact rfl
  case c4 => decide
  intro g L' h1 FG AmS F' N'
  have Am0 := AmS.am
  obtain ⟨B', X', T', hA', hf', hk', hd', hu', hh'⟩ := AmS.am
  refine no_raise ?_
  refine opaqueQ fun Q9 kQ9 => ?_
  refine name2 (a := Str.ofString "row") (b := Str.ofString "fault") (x := .ref r) (y := .str flt tf) F' rfl rfl fun m0 F0 => ?_
  clear F'
  refine gen_toks fun tk0 => ?_
  have hsz := whole_sm hW
  have hrl := hrow.length
  have hvz : vs.length ≤ 200 := by omega
  (try dsimp only)
  (try k_fold)
  k_steps
  unfold AtC
  refine LCg.ListComp_U (F₀ := by assumption) (by with_unfolding_all rfl) (by decide) (by rfl) (by decide) (by rfl) ?_
  k_steps
  refine LCg.CompSrc.ledger (its := vs.toArray) (by assumption) (by assumption) (by assumption) hr (by simp [sizeLine]; omega) fun g' => comp_rest (G := fun i y => ∃ p, (row.map Pc.t)[i]? = some p ∧ ∃ t, y = .str (Mine.S p) t) (.inr ⟨_, hr, rfl, _, rfl⟩) ?_ ?_
  · intro i v I oI C oC D m₂ ys h tk E' hv hC hx F2 N2 off ne
    obtain ⟨p, hp, x, t1, t2, t3, t4, rfl, hxn⟩ := hrow.get (i := i) (a := v) (by simpa using hv)
    have N3 := news_dup N2 (p := (x, tupO [.str (Mine.S p.t) t1, .str (Mine.S p.p) t2, .str (Mine.S p.w) t3, .int p.r t4])) (.tail _ (.tail _ (.tail _ hxn)))
    (try clear F0); clear N' F N
    k_steps
    all_goals first | exact F2 | exact N2 | (rw [List.getElem?_map, hp]; rfl)
  · intro ys hl hg D h tk F2 N2 off
    dsimp only
    (try k_sweep)
    have htx : All2 (fun v p => ∃ t, v = Value.str (Mine.S p) t) ys (row.map Pc.t) := all2_mk (by rw [hl]; simpa using hrl) hg
    have hflat := flat_le (f := Pc.t) (row := row) fun x hx => (hsz x hx).1
    k_steps
    unfold AtTree
    refine join_L (vs := ys) ⟨_, (N2 _ (.head _)).1, rfl, _, rfl⟩ htx (by omega) fun tj kj => ?_
    rw [show (row.map Pc.t).flatten = textF row from rfl] at hflat ⊢
    have hoD := off1_mem off
    (try clear F0); (try clear N')
    clear F N
    k_steps
    rename Fr _ _ _ _ => F1
    rename News _ _ _ _ => N1
    refine name3 (a := Str.ofString "text") (x := .str (Mine.S (textF row)) tj) (b := Str.ofString "row") (y := .ref r) (c := Str.ofString "fault") (z := .str flt tf) F1 rfl rfl rfl fun m1 F2 => ?_
    clear F1
    clear hg hl
    unfold AtC
    refine LCg.Assign_ListComp_U (F₀ := by assumption) (by rfl) (by with_unfolding_all rfl) (by with_unfolding_all rfl) (by decide) (by rfl) (by decide) (by rfl) (by rfl) (by rfl) ?_
    k_steps
    rename Fr _ _ _ _ => F3
    rename News _ _ _ _ => N3
    refine by_code (cut_spec (n := n + 1) (nr := news) (roles := [1, 3]) (Am0.less (by omega)) F3 N3 (.tail _ (.tail _ hr)) (.head _) (by repeat constructor) (fun p hp => .tail _ (.tail _ hp)) hrow (by omega) ?_)
    intro l rvs c nw h2 tk2 F4 N4 hparts hnw hnl hnwl
    dsimp only
    (try clear F3); (try clear N3); (try clear F2); (try clear N1)
    have N5 : News g L' h2 ((l, W.listOf (List.toArray rvs) c) :: (nw ++ news)) := news_sub N4 fun p hp => by
      simp only [List.mem_cons, List.mem_append] at hp ⊢
      rcases hp with h | h | h
      · exact .inl h
      · exact .inr (.inl h)
      · exact .inr (.inr (.inr (.inr h)))
    clear N4 hnl hnw
    have hpl := hparts.length
    have hcz := fun p hp => cut_len13 (row := row) (p := p) hp
    have hcl : (cutL [1, 3] row).length ≤ row.length + 1 := cut_count _ _
    refine LCg.CompSrc.ledger (its := rvs.toArray) (by assumption) (by assumption) N5 (.head _) (by simp [sizeLine]; omega) fun g' => comp_rest (G := fun i y => ∃ p, ((cutL [1, 3] row).map joinP)[i]? = some p ∧ ∃ t, y = .str (Mine.S p) t) (.inr ⟨_, .head _, rfl, _, rfl⟩) ?_ ?_
    · intro i v I oI C oC D m₂ ys h tk E' hv hC hx F5 N6 off ne
      obtain ⟨p, hp, x, pvs, cp, rfl, hxn, hpv⟩ := hparts.get (i := i) (a := v) (by simpa using hv)
      have hplen := hcz p (List.mem_of_getElem? hp)
      have hpvl := hpv.length
      clear N5 F4
      k_steps
      unfold AtC
      refine LCg.ListComp_U (F₀ := by assumption) (by with_unfolding_all rfl) (by decide) (by rfl) (by decide) (by rfl) ?_
      k_steps
      refine LCg.CompSrc.ledger (its := pvs.toArray) (by assumption) (by assumption) N6 (.tail _ (.tail _ (.tail _ (.tail _ (List.mem_append_left _ hxn))))) (by simp [sizeLine]; omega) fun g' => comp_rest (G := fun i y => ∃ q, (p.map Pc.p)[i]? = some q ∧ ∃ t, y = .str (Mine.S q) t) (.inr ⟨_, .tail _ (.tail _ (.tail _ (.tail _ (List.mem_append_left _ hxn)))), rfl, _, rfl⟩) ?_ ?_
      · intro i2 v I2 oI2 C2 oC2 D2 m₃ ys2 h tk E2 hv2 hC2 hx2 F6 N7 off2 ne2
        obtain ⟨pc, hpc, y, t1, t2, t3, t4, rfl, hyn⟩ := hpv.get (i := i2) (a := v) (by simpa using hv2)
        have N8 := news_dup N7 (p := (y, tupO [.str (Mine.S pc.t) t1, .str (Mine.S pc.p) t2, .str (Mine.S pc.w) t3, .int pc.r t4])) (.tail _ (.tail _ (.tail _ (.tail _ (.tail _ (.tail _ (.tail _ (List.mem_append_right _ hyn))))))))
        clear F5 N6
        k_steps
        all_goals first | exact F6 | exact N7 | (rw [List.getElem?_map, hpc]; rfl)
      · intro ys2 hl2 hg2 D2 h tk F6 N7 off2
        have hjp : All2 (fun v p => ∃ t, v = Value.str (Mine.S p) t) ys2 (p.map Pc.p) := all2_mk (by rw [hl2]; simpa using hpvl) hg2
        have hflat2 := flat_le (f := Pc.p) (row := p) fun x hx => (hsz x (cut_mem (List.mem_of_getElem? hp) x hx)).2.1
        clear F5 N6
        dsimp only
        (try k_sweep)
        k_steps
        unfold AtTree
        refine join_L (vs := ys2) ⟨_, (N7 _ (.head _)).1, rfl, _, rfl⟩ hjp (by omega) fun tj kj => ?_
        refine ⟨_, _, rfl, F6, news_sub N7 fun q hq => .tail _ hq, joinP p, ?_, _, rfl⟩
        rw [List.getElem?_map, hp]; rfl
    · intro ys2 hl2 hg2 D2 h tk F5 N6 off
      clear N5 F4
      have hIt : All2 (fun v p => ∃ t, v = Value.str (Mine.S p) t) ys2 ((cutL [1, 3] row).map joinP) := all2_mk (by rw [hl2]; simpa using hpl) hg2
      have hz3 : ∀ p ∈ cutL [1, 3] row, (joinP p).length ≤ 400 := fun p hp => by
        have h1 := flat_le (f := Pc.p) (row := p) fun x hx => (hsz x (cut_mem hp x hx)).2.1
        have h2 := hcz p hp
        show (p.map Pc.p).flatten.length ≤ 400
        omega
      have hio : (cutL [1, 3] row).map joinP = (cutF [1, 3] row).1.map joinP ++ [joinP (cutF [1, 3] row).2] := by unfold cutL; rw [List.map_append]; rfl
      have hjl := hz3 (cutF [1, 3] row).2 (by unfold cutL; exact List.mem_append_right _ (.head _))
      rw [hio] at hIt
      obtain ⟨xs, v, rfl, hxs, tv, rfl⟩ := all2_snoc hIt
      have hxl : xs.length ≤ 300 := by have := congrArg List.length hio; have := hxs.length; simp at *; omega
      have hitems : itemsF row = if joinP (cutF [1, 3] row).2 = [] then (cutF [1, 3] row).1.map joinP else (cutF [1, 3] row).1.map joinP ++ [joinP (cutF [1, 3] row).2] := rfl
      clear hio
      generalize joinP (cutF [1, 3] row).2 = jl at *
      have hoD := off1_mem off
      refine name4 (a := Str.ofString "text") (x := .str (Mine.S (textF row)) tj) (b := Str.ofString "row") (y := .ref r) (c := Str.ofString "fault") (z := .str flt tf) (d := Str.ofString "items") (u := .ref D2) F5 rfl rfl rfl rfl fun m2 F6 => ?_
      clear F5
      replace N6 : News g L' h ((D2, W.listOf (List.toArray (xs ++ [Value.str (Mine.S jl) tv])) (xs ++ [Value.str (Mine.S jl) tv]).length) :: news) := news_sub N6 fun p hp => by
        simp only [List.mem_cons, List.mem_append] at hp ⊢
        rcases hp with h | h
        · exact .inl h
        · exact .inr (.inr (.inr h))
      have hne : ∀ p ∈ news, p.1 ≠ D2 := fun p hp => hoD p (.tail _ (List.mem_append_right _ hp))
      have hjz : (Mine.S jl).length ≤ 400 := by simpa [Str.length, Mine.S] using hjl
      dsimp only
      clear hoD off hparts hnwl
      generalize (xs ++ [Value.str (Mine.S jl) tv]).length = c3 at N6
      k_steps
      unfold AtC
      refine wpAny_mono (Q := fun f s2 => AtMid (AgItems s g L' [(Str.ofString "text", Value.str (Mine.S (textF row)) tj), (Str.ofString "row", Value.ref r), (Str.ofString "fault", Value.str flt tf), (Str.ofString "items", Value.ref D2)] m2 news D2 row f s2)) ?_ (fun f s2 hf => ?_) (fun _ _ e => e)
      · refine wpAny_If ?_
        k_steps
        · rename (Mine.S jl == Str.ofString "") = true => hq
          rename Fr _ _ _ _ => F7
          rename News _ _ _ _ => N7
          rw [lit_nil, S_beq] at hq
          exact ⟨rfl, _, _, xs, _, rfl, F7, N7, by rw [hitems, if_pos (of_decide_eq_true hq)]; exact hxs⟩
        · rename (Mine.S jl == Str.ofString "") = false => hq
          rename Fr _ _ _ _ => F7
          rename News _ _ _ _ => N7
          rw [lit_nil, S_beq] at hq
          exact ⟨rfl, _, _, _, _, rfl, F7, N7, by rw [hitems, if_neg (of_decide_eq_false hq)]; exact hxs.append (.cons ⟨_, rfl⟩ .nil)⟩
      · obtain ⟨rfl, h9, tk9, its, c9, rfl, F9, N9, hits⟩ := hf
        clear F6 N6
        dsimp only
        k_steps
        have hiz := items_len hsz
        have hitl : its.length ≤ 300 := by
          have h1 := hits.length
          have h2 : (itemsF row).length ≤ (cutL [1, 3] row).length := items_count row
          omega
        unfold AtC
        refine wpAny_If ?_
        k_steps
        refine by_code (parse_spec (n := n + 1) (Am0.less (by omega)) F9 N9 (by omega) ?_)
        intro l4 ps h5 tk5 F5 N5 hps hl4
        rw [parse_items hW] at hps
        dsimp only
        clear F9 N9
        k_steps
        unfold AtC
        refine LCg.ListComp_U (F₀ := by assumption) (by with_unfolding_all rfl) (by decide) (by rfl) (by decide) (by rfl) ?_
        k_steps
        refine LCg.CompSrc.ledger (its := its.toArray) (by assumption) (by assumption) N5 (.tail _ (.head _)) (by simp [sizeLine]; omega) fun g' => comp_rest (G := fun i y => ∃ p, (itemsF row)[i]? = some p ∧ ∃ t, y = .str (Txt.strip (Mine.S p)) t) (.inr ⟨_, .tail _ (.head _), rfl, _, rfl⟩) ?_ ?_
        · intro i v I oI C oC D m₂ ys h tk E' hv hC hx F2 N2 off ne
          obtain ⟨p, hp, t, rfl⟩ := all2_get hits (i := i) (x := v) (by simpa using hv)
          have hlp := hiz p (List.mem_of_getElem? hp)
          have hlz : (Mine.S p).length ≤ 400 := by simp [Str.length, Mine.S]; omega
          clear F5 N5
          k_steps
          all_goals first | exact F2 | exact N2 | exact hp | exact ⟨p, hp, _, rfl⟩
        · intro ys5 hl5 hg5 D5 h tk F6 N6 off5
          have hst : All2 (fun v p => ∃ t, v = Value.str (Txt.strip (Mine.S p)) t) ys5 (itemsF row) := all2_mk (by rw [hl5]; exact hits.length) hg5
          clear F5 N5
          dsimp only
          k_steps
          unfold AtTree
          refine ne_strs (vs := ps) (us := ys5) ⟨_, (N6 _ (.tail _ (.head _))).1, rfl, _, rfl⟩ ⟨_, (N6 _ (.head _)).1, rfl, _, rfl⟩ (strs_of hps) (strs_of hst) (by have := cLine_is; omega) ?_
          k_steps
          refine name3 (a := Str.ofString "text") (x := .str (Mine.S (textF row)) tj) (b := Str.ofString "row") (y := .ref r) (c := Str.ofString "fault") (z := .str flt tf) F6 rfl rfl rfl fun m3 F7 => ?_
          have N7 : News g L' h news := news_sub N6 fun p hp => .tail _ (.tail _ (.tail _ hp))
          clear F6 N6 hg5 hst hps hits off5 hl4 hne
          unfold AtC
          refine LCt.Assign_ListComp_T (F₀ := F7) (by rfl) (by with_unfolding_all rfl) (by with_unfolding_all rfl) (by decide) (by rfl) (by decide) (by rfl) (by rfl) (by rfl) ?_
          k_steps
          rename Fr _ _ _ _ => F8
          rename News _ _ _ _ => N8
          refine by_code (cut_spec (n := n + 1) (nr := news) (roles := [2]) (Am0.less (by omega)) F8 N8 (.tail _ hr) (.head _) (by repeat constructor) (fun p hp => .tail _ hp) hrow (by omega) ?_)
          intro lw rvw cw nww h6 tk6 F9 N9 hpw hnw6 hnl6 hnwl6
          dsimp only
          clear F8 N8
          (try clear F7); (try clear N7)
          have N10 : News g L' h6 ((lw, W.listOf (List.toArray rvw) cw) :: (nww ++ news)) := news_sub N9 fun p hp => by
            simp only [List.mem_cons, List.mem_append] at hp ⊢
            rcases hp with h | h | h
            · exact .inl h
            · exact .inr (.inl h)
            · exact .inr (.inr (.inr h))
          clear N9 hnl6 hnw6
          have hpl6 := hpw.length
          have hcl6 : (cutL [2] row).length ≤ row.length + 1 := cut_count _ _
          refine LCt.CompSrcT.ledger (its := rvw.toArray) (by assumption) (by assumption) N10 (.head _) (by simp [sizeLine]; omega) fun g' => comp_restT (ps := cutL [2] row) (kp := fun p => !p.isEmpty) (G := fun p y => ∃ t, y = .str (Mine.S (joinW p)) t) (.inr ⟨_, .head _, rfl, _, rfl⟩) hpl6 ?_ ?_ ?_
          · intro i v p I oI C oC D m₂ ys h tk E' hv hp hC hx F11 N11 off ne
            obtain ⟨p', hp', x, pvs, cp, rfl, hxn, hpv⟩ := hpw.get (i := i) (a := v) hv
            rw [hp] at hp'
            injection hp' with hp'
            subst hp'
            clear N10 F9
            k_steps
            rename Fr _ _ _ _ => F13
            rename News _ _ _ _ => N13
            unfold AtTree
            refine ne_nil (vs := pvs) ⟨_, (N13 _ (.tail _ (.tail _ (.tail _ (.tail _ (.tail _ (List.mem_append_left _ hxn))))))).1, rfl, _, rfl⟩ ⟨_, (N13 _ (.head _)).1, rfl, _, rfl⟩ (by have := cLine_is; omega) ?_
            refine wpAny_truthy_bool ⟨?_, _, _, rfl, F13, news_sub N13 fun q hq => .tail _ hq⟩
            have := hpv.length
            cases pvs <;> cases p <;> first | rfl | (simp at this)
          · intro i v p I oI C oC D m₂ ys h tk E' hv hp hkp hC hx F11 N11 off ne
            obtain ⟨p', hp', x, pvs, cp, rfl, hxn, hpv⟩ := hpw.get (i := i) (a := v) hv
            rw [hp] at hp'
            injection hp' with hp'
            subst hp'
            have hplen := cut_lenR (List.mem_of_getElem? hp)
            have hpvl := hpv.length
            clear N10 F9
            k_steps
            unfold AtC
            refine LCg.ListComp_U (F₀ := by assumption) (by with_unfolding_all rfl) (by decide) (by rfl) (by decide) (by rfl) ?_
            k_steps
            refine LCg.CompSrc.ledger (its := pvs.toArray) (by assumption) (by assumption) N11 (.tail _ (.tail _ (.tail _ (.tail _ (List.mem_append_left _ hxn))))) (by simp [sizeLine]; omega) fun g' => comp_rest (G := fun i y => ∃ q, (p.map Pc.w)[i]? = some q ∧ ∃ t, y = .str (Mine.S q) t) (.inr ⟨_, .tail _ (.tail _ (.tail _ (.tail _ (List.mem_append_left _ hxn)))), rfl, _, rfl⟩) ?_ ?_
            · intro i2 v I2 oI2 C2 oC2 D2 m₃ ys2 h tk E2 hv2 hC2 hx2 F12 N12 off2 ne2
              obtain ⟨pc, hpc, y, t1, t2, t3, t4, rfl, hyn⟩ := hpv.get (i := i2) (a := v) (by simpa using hv2)
              have N13 := news_dup N12 (p := (y, tupO [.str (Mine.S pc.t) t1, .str (Mine.S pc.p) t2, .str (Mine.S pc.w) t3, .int pc.r t4])) (.tail _ (.tail _ (.tail _ (.tail _ (.tail _ (.tail _ (.tail _ (List.mem_append_right _ hyn))))))))
              clear F11 N11
              k_steps
              all_goals first | exact F12 | exact N12 | (rw [List.getElem?_map, hpc]; rfl)
            · intro ys2 hl2 hg2 D2 h tk F12 N12 off2
              have hjp : All2 (fun v p => ∃ t, v = Value.str (Mine.S p) t) ys2 (p.map Pc.w) := all2_mk (by rw [hl2]; simpa using hpvl) hg2
              have hflat2 := flat_le (f := Pc.w) (row := p) fun x hx => (hsz x (cut_mem (List.mem_of_getElem? hp) x hx)).2.2
              clear F11 N11
              dsimp only
              (try k_sweep)
              k_steps
              unfold AtTree
              refine join_L (vs := ys2) ⟨_, (N12 _ (.head _)).1, rfl, _, rfl⟩ hjp (by omega) fun tj kj => ?_
              exact ⟨_, _, rfl, F12, news_sub N12 fun q hq => .tail _ hq, _, rfl⟩
          · intro ysw hyw D11 h tk F11 N11 off11
            dsimp only
            clear N10 F9
            have hwd : All2 (fun v p => ∃ t, v = Value.str (Mine.S p) t) ysw (wordsF row) := all2_map hyw
            have N12 : News g L' h ((D11, W.listOf (List.toArray ysw) ysw.length) :: news) := news_sub N11 fun p hp => by
              rcases List.mem_cons.mp hp with h | h
              · rw [h]; exact .head _
              · exact .tail _ (.tail _ (List.mem_append_right _ h))
            have hoW := off1_mem off11
            have hneW : ∀ p ∈ news, p.1 ≠ D11 := fun p hp => hoW p (.tail _ (List.mem_append_right _ hp))
            refine name4 (a := Str.ofString "text") (x := .str (Mine.S (textF row)) tj) (b := Str.ofString "row") (y := .ref r) (c := Str.ofString "fault") (z := .str flt tf) (d := Str.ofString "words") (u := .ref D11) F11 rfl rfl rfl rfl fun m4 F12 => ?_
            clear F11 N11 hyw hoW off11 hpw hnwl6
            generalize ysw.length = cW at N12
            k_steps
            refine by_code (tok_spec (n := n + 1) (Am0.less (by omega)) F12 N12 (.tail _ hr) (hrow.imp fun _ _ h => h.mono fun q hq => .tail _ hq) (by omega) (fun x hx => (hsz x hx).2.2) ?_)
            intro lt wt ct h7 tk7 F13 N13 htk hlt
            dsimp only
            clear F12 N12
            k_steps
            rename Fr _ _ _ _ => F14
            rename News _ _ _ _ => N14
            obtain ⟨ts1, hts1, hts2⟩ := split_law hW
            obtain ⟨hlx, hlxn⟩ := lex_law hW
            have htkn := htk.length
            have hneT : ∀ p ∈ (D11, W.listOf (List.toArray ysw) cW) :: news, p.1 ≠ lt := fun p hp => Nat.ne_of_lt (hlt p hp)
            refine name4 (a := Str.ofString "text") (x := .str (Mine.S (textF row)) tj) (b := Str.ofString "fault") (y := .str flt tf) (c := Str.ofString "words") (z := .ref D11) (d := Str.ofString "tokens") (u := .ref lt) F14 rfl rfl rfl rfl fun m5 F15 => ?_
            clear F14
            unfold AtC
            refine wpAny_mono (Q := fun f s2 => AtMid (AgToks s g L' [(Str.ofString "text", Value.str (Mine.S (textF row)) tj), (Str.ofString "fault", Value.str flt tf)] news lt (if e = none then wordsF row else []) (if e = none then tokensF row else (tokensF row).dropLast) f s2)) ?_ (fun f s2 hf => ?_) (fun _ _ e => e)
            · refine wpAny_If ?_
              cases e with
              | none =>
                have hfe : flt = Str.ofString "" := hflt
                subst hfe
                k_steps
                rename Fr _ _ _ _ => F16
                rename News _ _ _ _ => N16
                exact ⟨rfl, _, _, D11, ysw, cW, wt, ct, m5, rfl, F16, N16, hwd, htk⟩
              | some b =>
                have hne := hlxn (by simp)
                obtain ⟨xs, xv, rfl, hxs, -⟩ := all2_snoc (by rw [List.dropLast_concat_getLast hne]; exact htk : All2 _ wt ((tokensF row).dropLast ++ [(tokensF row).getLast hne]))
                have hflt2 : (flt == Str.ofString "") = false := by rw [hflt]; cases b <;> decide +kernel
                have hxz : xs.length ≤ 900 := tok_len (by omega) hsz (by rw [← htkn]; simp)
                k_steps
                · rename Fr _ _ _ _ => F16
                  rename News _ _ _ _ => N16
                  refine ⟨rfl, _, _, _, [], 0, xs, ct + 1, _, rfl, fr_words F16 rfl rfl rfl, news_sub N16 ?_, ?_, ?_⟩
                  · intro p hp
                    simp only [List.mem_cons] at hp ⊢
                    rcases hp with h | h | h
                    · exact .inr (.inl h)
                    · exact .inl h
                    · exact .inr (.inr (.inr h))
                  · rw [if_neg (by simp)]; exact .nil
                  · rw [if_neg (by simp)]; exact hxs
                · exfalso
                  rename (flt != Str.ofString "") = false => hq
                  simp [bne, hflt2] at hq
            · obtain ⟨rfl, h9, tk9, Dw, vw, cw2, vt, ct2, m6, rfl, F16, N16, hvw, hvt⟩ := hf
              clear F15 N14
              dsimp only
              k_steps
              refine by_code (told_split (n := n) (AmS.less (by omega)) F16 N16 hts1 (Nat.le_trans (lex_len hts1) (by omega)) (by omega) ?_)
              intro g2 h10 tk10 xt1 Dt1 vt1 nt1 flt1 tt1 T2 B2 F17 N17 hl17 hx17 hn17 hs17
              have AmS2 := AmS.turn B2 T2
              obtain ⟨B5, X5, TT5, _, _, _, _, _, _⟩ := AmS2.am
              clear B' X' T' F16 N16
              dsimp only
              have hxl := hl17
              k_steps
              rename Fr _ _ _ _ => F18
              rename News _ _ _ _ => N18
              have hq1 : flt1 = flt ∧ All2 (fun v p => ∃ t, v = Value.str (Mine.S p) t) vt1 (if e = none then wordsF row else []) := by
                cases e with
                | none =>
                  obtain ⟨h1, h2⟩ := hn17 rfl
                  rw [h1, hflt, if_pos rfl, ← hts2 rfl]
                  exact ⟨lit_nil.symm, h2⟩
                | some b =>
                  obtain ⟨h1, rfl⟩ := hs17 b rfl
                  exact ⟨h1.trans hflt.symm, by rw [if_neg (by simp)]; exact .nil⟩
              obtain ⟨rfl, hq2⟩ := hq1
              unfold AtTree
              refine eq_told (vs := vt1) (us := vw) ⟨_, (N18 _ (.tail _ (.head _))).1, rfl, _, rfl⟩ ⟨_, (N18 _ (.head _)).1, rfl, _, rfl⟩ ⟨_, (N18 _ (.tail _ (.tail _ (.head _)))).1, rfl, _, rfl⟩ ⟨_, (N18 _ (.tail _ (.tail _ (.tail _ (.tail _ (.head _)))))).1, rfl, _, rfl⟩ (Nat.ne_of_gt (hl17 _ (.tail _ (.head _)))) (strs_of hq2) (strs_of hvw) (by have := cLine_is; omega) ?_
              k_steps
              refine by_code (told_lexer (n := n) (AmS2.less (by omega)) F18 N18 hlx (lex_len hlx) (by omega) ?_)
              intro g3 h11 tk11 xt2 Dt2 vt2 nt2 flt2 tt2 T3 B3 F19 N19 hl19 hx19 hv19 hn19 hs19
              have AmS3 := AmS2.turn B3 T3
              obtain ⟨B6, X6, TT6, _, _, _, _, _, _⟩ := AmS3.am
              have T4 := T2.trans T3
              clear B5 X5 TT5 F18 N18
              dsimp only
              have hxl2 := hl19
              k_steps
              rename Fr _ _ _ _ => F20
              rename News _ _ _ _ => N20
              have hq3 : flt2 = flt1 := by
                cases e with
                | none => rw [hn19 rfl, hflt]; exact lit_nil.symm
                | some b => rw [hs19 b rfl, hflt]; rfl
              subst hq3
              unfold AtTree
              refine eq_told (vs := vt2) (us := vt) ⟨_, (N20 _ (.tail _ (.head _))).1, rfl, _, rfl⟩ ⟨_, (N20 _ (.head _)).1, rfl, _, rfl⟩ ⟨_, (N20 _ (.tail _ (.tail _ (.head _)))).1, rfl, _, rfl⟩ ⟨_, (N20 _ (.tail _ (.tail _ (.tail _ (.tail _ (.tail _ (.tail _ (.head _)))))))).1, rfl, _, rfl⟩ (Nat.ne_of_gt (hl19 _ (.tail _ (.tail _ (.tail _ (.head _)))))) (strs_of hv19) (strs_of hvt) (by have := cLine_is; omega) ?_
              k_steps
              refine kQ9 _ _ ?_
              exact leaveS0_ F20 N20 T4 fun F21 N21 => k _ _ F21 (news_sub N21 fun p hp => .tail _ (.tail _ (.tail _ (.tail _ (.tail _ (.tail _ (.tail _ (.tail _ hp))))))))
end
end Mine
/-! LW -/
namespace Mine
open PySem PySem.W PySem.Calls PyProof.Rows PySem.Spec
theorem zz_LW {P : Nat → Prop} (h : ∃ x, P x) : ∃ x, P x := by first | (w_top off; walk1; fail) | exact h
theorem fltB_eq (b : Bool) : fltE (some b) = fltB b := by cases b <;> rfl
theorem fault_link (ns : List Int) : faultS ns = fltE (faultB ns) := by
  unfold faultS faultB
  by_cases h : (ns.take 16).sum.fmod 3 = 1
  · rw [if_pos h, if_pos h]; rfl
  · rw [if_neg h, if_neg h]
    by_cases h2 : (rowF (ns.take 16)).2 = true
    · rw [if_pos h2, if_pos h2]; rfl
    · rw [if_neg h2, if_neg h2]; rfl
local macro_rules | `(tactic| walk_at "call ref") => fresh (callAt "760")
local macro_rules | `(tactic| walk_at "call ref") => fresh (callAt "800")
local macro_rules | `(tactic| walk_at "call ref") => fresh (callAt "767")
local macro_rules | `(tactic| k_qdec) => `(tactic| first | exact Mine.names_ok | exact Mine.imports_ok | decide +kernel)
theorem law_facts {vs : List Value} {ns : List Int} (_ : IntsAre vs ns) : ∃ row b e, rowAll ns = row ∧ (rowF (ns.take 16)).2 = b ∧ faultS ns = fltE e ∧ Whole row e ∧ (e ≠ none → Whole (mendF row b e) none) :=
  ⟨_, _, faultB ns, rfl, rfl, fault_link ns, whole_row ns, whole_mend ns⟩
theorem whole_ne {row : List Pc} {b : Bool} (h : Whole row (some b)) : row ≠ [] := by
  cases h with
  | quo g => intro e; subst e; cases g
  | escO g => simp
  | escI g => simp
theorem mend_len (row : List Pc) (b : Bool) (e : Option Bool) : (mendF row b e).length ≤ row.length + 2 := by
  unfold mendF
  dsimp only
  repeat' split
  all_goals simp
  all_goals omega
theorem law_start {w : World} {mg mb : Str → Option Value} {mean : ExcName → Option Value} {base : Heap} {cn : Str} {cs : Scope} {L a : Addr} {ccd : Value} {body : List Stmt} {Q : Flow → Shared → Prop} {E : Value → Shared → Prop} {s : Shared}
    (K0 : Below callerA base [] base) (KX : (Mine.hd.heap_39 w.params).In base) (T0 : Top Mine.hd.view_39 LL mean mg mb base) (hk : cs.kind = .function)
    (h : AmbS w mg mb mean 40 (callerA.deeper (envOf cn cs L a ccd)) callerA base base cn cs a ccd [] L → wpAny (model Challenge.rw_mq0398_01.row.prog w) (callerA.deeper (envOf cn cs L a ccd)) (execs body (envOf cn cs L a ccd)) Q (fun _ _ => False) s) :
    wpAny (model Challenge.rw_mq0398_01.row.prog w) (callerA.deeper (envOf cn cs L a ccd)) (execs body (envOf cn cs L a ccd)) Q E s :=
  no_raise (h ⟨⟨K0, KX, T0, rfl, rfl, hk, by simp [depth_deeper, depth_caller], by simp [units_deeper, units_caller], rfl⟩, KX, T0, fun _ h => by cases h⟩)
theorem law_holds (hl : LeftO PySem.Challenge.rw_mq0398_01.row.prog Mine.hd.view_39 loo (fun s => xlAt Mine.hd.view_39 [] s && recOk (RowW.records PySem.Challenge.rw_mq0398_01.row.toRowW) s) (Hook.obs (kHook Mine.hd.heap_39 asK asK_ok)) (Hook.val (kHook Mine.hd.heap_39 asK asK_ok)) 6000) : PySem.Challenge.rw_mq0398_01.Holds := by
  w_on
  refine holds_law said_ok fun said => ?_
  refine PySem.W.holds_open (q := Mine.hd.view_39) (loose := loo) (Xt := fun s => xlAt Mine.hd.view_39 [] s && recOk (RowW.records PySem.Challenge.rw_mq0398_01.row.toRowW) s) (XP := XL Mine.hd.view_39 []) (Yf := Hook.obs (kHook Mine.hd.heap_39 asK asK_ok)) (Ya := Hook.val (kHook Mine.hd.heap_39 asK asK_ok)) (YP := Hook.says (kHook Mine.hd.heap_39 asK asK_ok)) (N := 6000) hl (Hook.of (kHook Mine.hd.heap_39 asK asK_ok)) (Hook.keeps (kHook Mine.hd.heap_39 asK asK_ok)) (fun s e => xl_of s (Bool.and_eq_true_iff.mp e).1) XL.keeps (by rfl) (by rfl) (by rfl) (fun s e => recFacts_of (Bool.and_eq_true_iff.mp e).2) (by rfl) (by first | assumption | decide +kernel) (by decide +kernel) ⟨rfl, rfl, rfl, rfl, rfl, by decide +kernel⟩ ?hw ?hc
  case hw => w_witness2
  clear hl
  k_go0
  (all_goals try k_fold)
  rename Below callerA _ [] _ => K0
  rename Frag.In _ _ => KX
  rename Top _ _ _ _ _ _ => T0
  rename Fr _ _ _ _ => F0
  rename News _ _ _ _ => N0
  rename IntsAre _ _ => hI
  rename Heap.IsList _ _ _ => hL0
  rename ¬ _ => hlen0
  refine law_start K0 KX T0 rfl fun AmS => ?_
  have Am0 := AmS.am
  have hA0 : (callerA.deeper (envOf _ _ _ _ _)).handled = none := Am0.hh
  k_steps
  refine by_code (row_spec (Am0.less (by omega)) F0 N0 hL0 hI (by omega) ?_)
  intro x t r rvs c nw h' tk' F1 N1 hrow hrn hrnw hnx hrx hrl
  obtain ⟨row, ins, e, e1, e2, e3, hW, hM⟩ := law_facts hI
  rw [e1] at hrow
  rw [e2, e3] at N1
  clear e1 e2 e3
  have hrowl := hrow.length
  dsimp only
  clear F0 N0
  k_steps
  rename Fr _ _ _ _ => F2
  rename News _ _ _ _ => N2
  have hrow2 : All2 (PcAt ((x, tupO [Value.ref r, Value.bool ins, Value.str (fltE e) t]) :: (r, W.listOf (List.toArray rvs) c) :: (nw ++ []))) rvs row := hrow.imp fun _ _ h => h.mono fun q hq => .tail _ (.tail _ (List.mem_append_left _ hq))
  refine by_code (agrees_spec (n := 10) (AmS.less (by omega)) F2 N2 (.tail _ (.head _)) hrow2 (by omega) hW rfl ?_)
  intro h3 tk3 F3 N3
  dsimp only
  clear F2 N2
  cases e with
  | none =>
    have e0 : fltE none = Str.ofString "" := rfl
    rw [e0] at F3 N3
    k_steps
  | some b =>
    have hM1 := hM (by simp)
    rw [fltB_eq b] at F3 N3 hrow2
    k_steps
    refine by_code (mend_spec (n := 10) (Am0.less (by omega)) F3 N3 (.tail _ (.head _)) hrow2 (by omega) (whole_ne hW) ?_)
    intro l ws c2 nw2 h4 tk4 F4 N4 hl hws hnw2
    have hml := mend_len row ins (some b)
    dsimp only
    clear F3 N3
    k_steps
    refine by_code (agrees_spec (n := 10) (e := none) (AmS.less (by omega)) F4 N4 hl hws (by omega) hM1 rfl ?_)
    intro h5 tk5 F5 N5
    dsimp only
    k_steps
end Mine
theorem PySem.Challenge.cw_mq0398_01_holds : PySem.Challenge.rw_mq0398_01.Holds :=
  Mine.law_holds (Mine.left_of Mine.run_ok)
