import PyProof.Rows.All
import Wide.All
import OpenK.AllK
import Wide.FinOn
import Lean
import PySem.Challenge.RW_mr0367_01
set_option Elab.async false
set_option maxRecDepth 100000
set_option maxHeartbeats 8000000
open PySem PySem.W PySem.Calls PyProof.Rows
namespace Mine
/-! the program's parts, by place -/
abbrev S (x : String) : Str := Str.ofString x
def nth : List Stmt → Nat → Stmt
  | [], _ => .Pass ⟨0, 0, 0, 0⟩
  | s :: _, 0 => s
  | _ :: r, n + 1 => nth r n
def st (i : Nat) : Stmt := nth PySem.Challenge.pw_mr0367_01.main.body i
def cst (i j : Nat) : Stmt := match st i with
  | .ClassDef _ _ _ b _ _ _ _ _ _ _ => nth b j
  | s => s
def fParams : Stmt → Arguments
  | .FunctionDef _ a _ _ _ _ _ _ _ _ => a
  | _ => ⟨[], [], none, [], [], none, []⟩
def fBody : Stmt → List Stmt
  | .FunctionDef _ _ b _ _ _ _ _ _ _ => b
  | _ => []
def fScope : Stmt → Scope
  | .FunctionDef _ _ _ _ _ _ s _ _ _ => s
  | _ => { kind := .function, names := [], isGenerator := false, isCoroutine := false, more := [] }
abbrev fnS (s : Stmt) (name qual : Str) (dV kV doc pm : Value) (an : Option Addr) (cdv ct : Value) : FuncData :=
  fnOf name qual (fParams s) (fBody s) (fScope s) dV kV doc pm an cdv ct
abbrev en (P : Params) (x : Str) (t : Tok) (v : Value) : DictEntry := ⟨PyData.keyHash P x, .str x t, v⟩
/-- what the top leaves, as far as the call needs it -/
noncomputable def K (P : Params) : Frag :=
  (nat_lit 2, ⟨.none, none, (.dict [en P (S "\x69mport.loaded._sre") 183 (.bool true), en P (S "class._frozen_importlib.BuiltinImporter") 185 (.ref 14), en P (S "watched.\x69mport") 206 (.ref 18), en P (S "class._frozen_importlib.ModuleSpec") 216 (.ref 22), en P (S "sys.modules.booked-epoch") 245 (.int (4) 0), en P (S "\x69mport.later-laid._sre") 270 (.bool true), en P (S "watched.library") 272 (.ref 27), en P (S "watched.library-objects") 0 (.str (S "\x0c\x1e") 0), en P (S "watched.library-deep._sre") 273 (.str (S "\x04\x00\x00\x0b\x04\x00\x00\x0b\x04\x00\x00\x03\x04\x00\x00\x0b\x08\x04dict\x02") 0), en P (S "\x69mport.loaded._collections") 280 (.bool true), en P (S "sys.modules.landed._collections") 294 (.bool true), en P (S "\x69mport.later-laid._collections") 309 (.bool true), en P (S "watched.library-deep._collections") 311 (.str (S "\x04\x00\x00\x1d\x04\x00\x00\x1d\x04\x00\x00\x03\x04\x00\x00\x1d\x08\x04dict\x02") 0), en P (S "type.__subclasses__.OSError.0") 463 (.int (109) 0), en P (S "type.__subclasses__.OSError.n") 464 (.int (1) 0)].toArray 15), #[]⟩) ::
  (nat_lit 3, ⟨(.type "dict"), none, (.dict [en P (S "__name__") 165 (.str (S "law_mr0367_01") 1311), en P (S "__doc__") 166 .none, en P (S "__package__") 167 .none, en P (S "__loader__") 168 (.builtin "__main__.__loader__#opaque"), en P (S "__spec__") 169 .none, en P (S "__annotations__") 170 (.ref 6), en P (S "__builtins__") 171 (.ref 4), en P (S "__file__") 173 (.str (S "/claim/cut.py") 172), en P (S "__cached__") 174 .none, en P (S "_sre") 275 (.ref 12), en P (S "deque") 317 (.type "collections.deque"), en P (S "_wall") 330 (.ref 44), en P (S "insort_right") 345 (.ref 53), en P (S "bisect_right") 359 (.ref 62), en P (S "insort_left") 372 (.ref 71), en P (S "bisect_left") 386 (.ref 80), en P (S "_twin_re_1") 426 (.ref 85), en P (S "_whence") 436 (.ref 92), en P (S "_index") 444 (.ref 99), en P (S "UnsupportedOperation") 466 (.ref 109), en P (S "IOBase") 498 (.ref 129), en P (S "BufferedIOBase") 516 (.ref 144), en P (S "TextIOBase") 534 (.ref 156), en P (S "BytesIO") 796 (.ref 386), en P (S "StringIO") 1083 (.ref 633), en P (S "_kind") 1094 (.ref 642), en P (S "_fspath") 1103 (.ref 649), en P (S "_check_arg_types") 1113 (.ref 656), en P (S "isabs") 1120 (.ref 663), en P (S "join") 1131 (.ref 787), en P (S "join_path") 1132 (.ref 670), en P (S "dirname") 1142 (.ref 677), en P (S "shlex") 1283 (.ref 768), en P (S "split") 1293 (.ref 780), en P (S "join_shlex") 1301 (.ref 787), en P (S "_find_unsafe") 1303 (.ref 788), en P (S "quote") 1310 (.ref 795), en P (S "_law_words") 1321 (.ref 802), en P (S "_law_written") 1328 (.ref 809), en P (S "_law_block") 1334 (.ref 814), en P (S "_law_ahead") 1342 (.ref 821), en P (S "_law_kept") 1348 (.ref 826), en P (S "law") 1357 (.ref 833)].toArray 43), #[]⟩) ::
  (nat_lit 45, ⟨(.type "tuple"), none, (.seq [(.int (0) 333), .none].toArray 0), #[]⟩) ::
  (nat_lit 46, ⟨(.type "dict"), none, (.dict [en P (S "key") 334 .none].toArray 1), #[]⟩) ::
  (nat_lit 47, ⟨(.type "tuple"), none, (.seq [].toArray 0), #[]⟩) ::
  (nat_lit 49, ⟨(.type "tuple"), none, (.seq [(.str (S "a") 338), (.str (S "x") 339), (.str (S "lo") 340), (.str (S "hi") 341), (.str (S "key") 342)].toArray 0), #[]⟩) ::
  (nat_lit 50, ⟨(.type "tuple"), none, (.seq [].toArray 0), #[]⟩) ::
  (nat_lit 52, ⟨(.type "code"), none, (.fields [(.str (S "insort_right") 335), (.str (S "insort_right") 336), (.str (S "/claim/cut.py") 337), (.int (7) 0), (.int (4) 0), (.int (0) 0), (.int (1) 0), (.int (3) 0), (.ref 47), (.bool true), (.int (318) 0), (.ref 48), .none, (.ref 49), (.ref 50), (.ref 51), (.int (343) 0), (.int (7) 0), (.str (S "/claim/cut.py") 344)].toArray), #[]⟩) ::
  (nat_lit 53, ⟨(.type "function"), none, (.func (fnS (st 4) (S "insort_right") (S "insort_right") (.ref 45) (.ref 46) .none (.str (S "cpy313.bisect") 331) none (.ref 52) .none)), #[]⟩) ::
  (nat_lit 54, ⟨(.type "tuple"), none, (.seq [(.int (0) 346), .none].toArray 0), #[]⟩) ::
  (nat_lit 55, ⟨(.type "dict"), none, (.dict [en P (S "key") 347 .none].toArray 1), #[]⟩) ::
  (nat_lit 56, ⟨(.type "tuple"), none, (.seq [].toArray 0), #[]⟩) ::
  (nat_lit 58, ⟨(.type "tuple"), none, (.seq [(.str (S "a") 351), (.str (S "x") 352), (.str (S "lo") 353), (.str (S "hi") 354), (.str (S "key") 355), (.str (S "mid") 356)].toArray 0), #[]⟩) ::
  (nat_lit 59, ⟨(.type "tuple"), none, (.seq [].toArray 0), #[]⟩) ::
  (nat_lit 61, ⟨(.type "code"), none, (.fields [(.str (S "bisect_right") 348), (.str (S "bisect_right") 349), (.str (S "/claim/cut.py") 350), (.int (13) 0), (.int (4) 0), (.int (0) 0), (.int (1) 0), (.int (3) 0), (.ref 56), (.bool true), (.int (318) 0), (.ref 57), .none, (.ref 58), (.ref 59), (.ref 60), (.int (357) 0), (.int (13) 0), (.str (S "/claim/cut.py") 358)].toArray), #[]⟩) ::
  (nat_lit 62, ⟨(.type "function"), none, (.func (fnS (st 5) (S "bisect_right") (S "bisect_right") (.ref 54) (.ref 55) .none (.str (S "cpy313.bisect") 331) none (.ref 61) .none)), #[]⟩) ::
  (nat_lit 63, ⟨(.type "tuple"), none, (.seq [(.int (0) 360), .none].toArray 0), #[]⟩) ::
  (nat_lit 64, ⟨(.type "dict"), none, (.dict [en P (S "key") 361 .none].toArray 1), #[]⟩) ::
  (nat_lit 65, ⟨(.type "tuple"), none, (.seq [].toArray 0), #[]⟩) ::
  (nat_lit 67, ⟨(.type "tuple"), none, (.seq [(.str (S "a") 365), (.str (S "x") 366), (.str (S "lo") 367), (.str (S "hi") 368), (.str (S "key") 369)].toArray 0), #[]⟩) ::
  (nat_lit 68, ⟨(.type "tuple"), none, (.seq [].toArray 0), #[]⟩) ::
  (nat_lit 70, ⟨(.type "code"), none, (.fields [(.str (S "insort_left") 362), (.str (S "insort_left") 363), (.str (S "/claim/cut.py") 364), (.int (33) 0), (.int (4) 0), (.int (0) 0), (.int (1) 0), (.int (3) 0), (.ref 65), (.bool true), (.int (318) 0), (.ref 66), .none, (.ref 67), (.ref 68), (.ref 69), (.int (370) 0), (.int (33) 0), (.str (S "/claim/cut.py") 371)].toArray), #[]⟩) ::
  (nat_lit 71, ⟨(.type "function"), none, (.func (fnS (st 6) (S "insort_left") (S "insort_left") (.ref 63) (.ref 64) .none (.str (S "cpy313.bisect") 331) none (.ref 70) .none)), #[]⟩) ::
  (nat_lit 72, ⟨(.type "tuple"), none, (.seq [(.int (0) 373), .none].toArray 0), #[]⟩) ::
  (nat_lit 73, ⟨(.type "dict"), none, (.dict [en P (S "key") 374 .none].toArray 1), #[]⟩) ::
  (nat_lit 74, ⟨(.type "tuple"), none, (.seq [].toArray 0), #[]⟩) ::
  (nat_lit 76, ⟨(.type "tuple"), none, (.seq [(.str (S "a") 378), (.str (S "x") 379), (.str (S "lo") 380), (.str (S "hi") 381), (.str (S "key") 382), (.str (S "mid") 383)].toArray 0), #[]⟩) ::
  (nat_lit 77, ⟨(.type "tuple"), none, (.seq [].toArray 0), #[]⟩) ::
  (nat_lit 79, ⟨(.type "code"), none, (.fields [(.str (S "bisect_left") 375), (.str (S "bisect_left") 376), (.str (S "/claim/cut.py") 377), (.int (39) 0), (.int (4) 0), (.int (0) 0), (.int (1) 0), (.int (3) 0), (.ref 74), (.bool true), (.int (318) 0), (.ref 75), .none, (.ref 76), (.ref 77), (.ref 78), (.int (384) 0), (.int (39) 0), (.str (S "/claim/cut.py") 385)].toArray), #[]⟩) ::
  (nat_lit 80, ⟨(.type "function"), none, (.func (fnS (st 7) (S "bisect_left") (S "bisect_left") (.ref 72) (.ref 73) .none (.str (S "cpy313.bisect") 331) none (.ref 79) .none)), #[]⟩) ::
  (nat_lit 84, ⟨(.type "tuple"), none, (.seq [(.int (14) 0), (.int (17) 0), (.int (4) 0), (.int (1) 0), (.int (1) 0), (.int (21) 0), (.int (9) 0), (.int (0) 0), (.int (604043296) 0), (.int (1) 0), (.int (0) 0), (.int (0) 0), (.int (0) 0), (.int (0) 0), (.int (0) 0), (.int (8) 0), (.int (4) 0), (.int (0) 0), (.int (13) 0), (.int (14) 0), (.int (21) 0), (.int (9) 0), (.int (0) 0), (.int (604043296) 0), (.int (1) 0), (.int (0) 0), (.int (0) 0), (.int (0) 0), (.int (0) 0), (.int (0) 0), (.int (8) 0), (.int (4) 0), (.int (0) 0), (.int (1) 0)].toArray 0), #[]⟩) ::
  (nat_lit 85, ⟨(.type "re.Pattern"), none, (.fields [(.str (S "[^\\w@%+=:,./-]") 388), (.int (256) 425), (.int (0) 0), .none, .none, (.ref 84), (.int (0) 0)].toArray), #[]⟩) ::
  (nat_lit 93, ⟨(.type "tuple"), none, (.seq [].toArray 0), #[]⟩) ::
  (nat_lit 95, ⟨(.type "tuple"), none, (.seq [(.str (S "n") 440), (.str (S "what") 441)].toArray 0), #[]⟩) ::
  (nat_lit 96, ⟨(.type "tuple"), none, (.seq [].toArray 0), #[]⟩) ::
  (nat_lit 98, ⟨(.type "code"), none, (.fields [(.str (S "_index") 437), (.str (S "_index") 438), (.str (S "/claim/cut.py") 439), (.int (66) 0), (.int (2) 0), (.int (0) 0), (.int (0) 0), (.int (3) 0), (.ref 93), (.bool true), (.int (318) 0), (.ref 94), .none, (.ref 95), (.ref 96), (.ref 97), (.int (442) 0), (.int (66) 0), (.str (S "/claim/cut.py") 443)].toArray), #[]⟩) ::
  (nat_lit 99, ⟨(.type "function"), none, (.func (fnS (st 11) (S "_index") (S "_index") .none .none .none (.str (S "io") 427) none (.ref 98) .none)), #[]⟩) ::
  (nat_lit 120, ⟨(.type "tuple"), none, (.seq [].toArray 0), #[]⟩) ::
  (nat_lit 122, ⟨(.type "tuple"), none, (.seq [(.str (S "cls") 484), (.str (S "args") 485), (.str (S "kwargs") 486)].toArray 0), #[]⟩) ::
  (nat_lit 123, ⟨(.type "tuple"), none, (.seq [].toArray 0), #[]⟩) ::
  (nat_lit 125, ⟨(.type "code"), none, (.fields [(.str (S "__new__") 481), (.str (S "IOBase.__new__") 482), (.str (S "/claim/cut.py") 483), (.int (78) 0), (.int (1) 0), (.int (1) 0), (.int (0) 0), (.int (15) 0), (.ref 120), (.bool true), (.int (318) 0), (.ref 121), .none, (.ref 122), (.ref 123), (.ref 124), (.int (487) 0), (.int (78) 0), (.str (S "/claim/cut.py") 488)].toArray), #[]⟩) ::
  (nat_lit 126, ⟨(.type "function"), none, (.func (fnS (cst 13 1) (S "__new__") (S "IOBase.__new__") .none .none .none (.str (S "io") 427) none (.ref 125) .none)), #[]⟩) ::
  (nat_lit 128, ⟨(.type "dict"), none, (.dict [en P (S "__module__") 474 (.str (S "io") 479), en P (S "__firstlineno__") 478 (.int (75) 477), en P (S "__new__") 489 (.ref 130), en P (S "__static_attributes__") 490 (.ref 127), en P (S "__dict__") 493 (.ref 131), en P (S "__weakref__") 495 (.ref 132), en P (S "__doc__") 496 .none].toArray 4), #[]⟩) ::
  (nat_lit 129, ⟨(.type "type"), none, (.cls ⟨(S "IOBase"), [(.type "object")], [(.ref 129), (.type "object")], 128, (S "IOBase"), true, [], [(.ref 144), (.ref 156)], false, none, false⟩), [none, none, some (.str (S "IOBase") 467), some (.str (S "IOBase") 475), some .none, some (.bool true)].toArray⟩) ::
  (nat_lit 130, ⟨(.type "staticmethod"), none, (.fields [(.ref 126)].toArray), #[]⟩) ::
  (nat_lit 135, ⟨(.type "tuple"), none, (.seq [(.ref 129)].toArray 0), #[]⟩) ::
  (nat_lit 143, ⟨(.type "dict"), none, (.dict [en P (S "__module__") 506 (.str (S "io") 511), en P (S "__firstlineno__") 510 (.int (82) 509), en P (S "__static_attributes__") 513 (.ref 142), en P (S "__doc__") 514 .none].toArray 2), #[]⟩) ::
  (nat_lit 144, ⟨(.type "type"), none, (.cls ⟨(S "BufferedIOBase"), [(.ref 129)], [(.ref 144), (.ref 129), (.type "object")], 143, (S "BufferedIOBase"), true, [], [(.ref 386)], false, none, false⟩), [some (.ref 135), none, some (.str (S "BufferedIOBase") 499), some (.str (S "BufferedIOBase") 507), some .none, some (.bool true)].toArray⟩) ::
  (nat_lit 147, ⟨(.type "tuple"), none, (.seq [(.ref 129)].toArray 0), #[]⟩) ::
  (nat_lit 155, ⟨(.type "dict"), none, (.dict [en P (S "__module__") 524 (.str (S "io") 529), en P (S "__firstlineno__") 528 (.int (84) 527), en P (S "__static_attributes__") 531 (.ref 154), en P (S "__doc__") 532 .none].toArray 2), #[]⟩) ::
  (nat_lit 156, ⟨(.type "type"), none, (.cls ⟨(S "TextIOBase"), [(.ref 129)], [(.ref 156), (.ref 129), (.type "object")], 155, (S "TextIOBase"), true, [], [(.ref 633)], false, none, false⟩), [some (.ref 147), none, some (.str (S "TextIOBase") 517), some (.str (S "TextIOBase") 525), some .none, some (.bool true)].toArray⟩) ::
  (nat_lit 159, ⟨(.type "tuple"), none, (.seq [(.ref 144)].toArray 0), #[]⟩) ::
  (nat_lit 385, ⟨(.type "dict"), none, (.dict [en P (S "__module__") 542 (.str (S "_io") 547), en P (S "__firstlineno__") 546 (.int (86) 545), en P (S "__init__") 556 (.ref 173), en P (S "_BytesIO__check") 563 (.ref 180), en P (S "_BytesIO__line") 574 (.ref 187), en P (S "closed") 582 (.ref 195), en P (S "close") 589 (.ref 202), en P (S "__enter__") 596 (.ref 209), en P (S "__exit__") 604 (.ref 216), en P (S "readable") 611 (.ref 223), en P (S "writable") 618 (.ref 230), en P (S "seekable") 625 (.ref 237), en P (S "isatty") 632 (.ref 244), en P (S "flush") 639 (.ref 251), en P (S "fileno") 646 (.ref 258), en P (S "detach") 653 (.ref 265), en P (S "getvalue") 660 (.ref 272), en P (S "getbuffer") 667 (.ref 279), en P (S "tell") 674 (.ref 286), en P (S "seek") 684 (.ref 294), en P (S "truncate") 692 (.ref 302), en P (S "read") 704 (.ref 310), en P (S "read1") 714 (.ref 318), en P (S "readinto") 724 (.ref 325), en P (S "readinto1") 732 (.ref 332), en P (S "readline") 742 (.ref 340), en P (S "readlines") 750 (.ref 348), en P (S "__iter__") 757 (.ref 355), en P (S "__next__") 765 (.ref 362), en P (S "write") 775 (.ref 369), en P (S "writelines") 783 (.ref 376), en P (S "__repr__") 790 (.ref 383), en P (S "__static_attributes__") 793 (.ref 384), en P (S "__doc__") 794 .none].toArray 2), #[]⟩) ::
  (nat_lit 386, ⟨(.type "type"), none, (.cls ⟨(S "BytesIO"), [(.ref 144)], [(.ref 386), (.ref 144), (.ref 129), (.type "object")], 385, (S "BytesIO"), true, [], [], false, none, false⟩), [some (.ref 159), none, some (.str (S "BytesIO") 535), some (.str (S "BytesIO") 543), some .none, some (.bool true)].toArray⟩) ::
  (nat_lit 389, ⟨(.type "tuple"), none, (.seq [(.ref 156)].toArray 0), #[]⟩) ::
  (nat_lit 396, ⟨(.type "tuple"), none, (.seq [(.str (S "") 811), (.str (S "\n") 812)].toArray 0), #[]⟩) ::
  (nat_lit 397, ⟨(.type "tuple"), none, (.seq [].toArray 0), #[]⟩) ::
  (nat_lit 399, ⟨(.type "tuple"), none, (.seq [(.str (S "self") 816), (.str (S "initial_value") 817), (.str (S "newline") 818)].toArray 0), #[]⟩) ::
  (nat_lit 400, ⟨(.type "tuple"), none, (.seq [].toArray 0), #[]⟩) ::
  (nat_lit 402, ⟨(.type "code"), none, (.fields [(.str (S "__init__") 813), (.str (S "StringIO.__init__") 814), (.str (S "/claim/cut.py") 815), (.int (259) 0), (.int (3) 0), (.int (0) 0), (.int (0) 0), (.int (3) 0), (.ref 397), (.bool true), (.int (318) 0), (.ref 398), .none, (.ref 399), (.ref 400), (.ref 401), (.int (819) 0), (.int (259) 0), (.str (S "/claim/cut.py") 820)].toArray), #[]⟩) ::
  (nat_lit 403, ⟨(.type "function"), none, (.func (fnS (cst 17 1) (S "__init__") (S "StringIO.__init__") (.ref 396) .none .none (.str (S "io") 427) none (.ref 402) .none)), #[]⟩) ::
  (nat_lit 404, ⟨(.type "tuple"), none, (.seq [].toArray 0), #[]⟩) ::
  (nat_lit 406, ⟨(.type "tuple"), none, (.seq [(.str (S "self") 825), (.str (S "s") 826), (.str (S "newline") 827)].toArray 0), #[]⟩) ::
  (nat_lit 407, ⟨(.type "tuple"), none, (.seq [].toArray 0), #[]⟩) ::
  (nat_lit 409, ⟨(.type "code"), none, (.fields [(.str (S "__translated") 822), (.str (S "StringIO.__translated") 823), (.str (S "/claim/cut.py") 824), (.int (272) 0), (.int (2) 0), (.int (0) 0), (.int (0) 0), (.int (3) 0), (.ref 404), (.bool true), (.int (318) 0), (.ref 405), .none, (.ref 406), (.ref 407), (.ref 408), (.int (828) 0), (.int (272) 0), (.str (S "/claim/cut.py") 829)].toArray), #[]⟩) ::
  (nat_lit 410, ⟨(.type "function"), none, (.func (fnS (cst 17 2) (S "__translated") (S "StringIO.__translated") .none .none .none (.str (S "io") 427) none (.ref 409) .none)), #[]⟩) ::
  (nat_lit 411, ⟨(.type "tuple"), none, (.seq [].toArray 0), #[]⟩) ::
  (nat_lit 413, ⟨(.type "tuple"), none, (.seq [(.str (S "self") 834)].toArray 0), #[]⟩) ::
  (nat_lit 414, ⟨(.type "tuple"), none, (.seq [].toArray 0), #[]⟩) ::
  (nat_lit 416, ⟨(.type "code"), none, (.fields [(.str (S "__check") 831), (.str (S "StringIO.__check") 832), (.str (S "/claim/cut.py") 833), (.int (280) 0), (.int (1) 0), (.int (0) 0), (.int (0) 0), (.int (3) 0), (.ref 411), (.bool true), (.int (318) 0), (.ref 412), .none, (.ref 413), (.ref 414), (.ref 415), (.int (835) 0), (.int (280) 0), (.str (S "/claim/cut.py") 836)].toArray), #[]⟩) ::
  (nat_lit 417, ⟨(.type "function"), none, (.func (fnS (cst 17 3) (S "__check") (S "StringIO.__check") .none .none .none (.str (S "io") 427) none (.ref 416) .none)), #[]⟩) ::
  (nat_lit 572, ⟨(.type "tuple"), none, (.seq [(.int (-1) 1004)].toArray 0), #[]⟩) ::
  (nat_lit 573, ⟨(.type "tuple"), none, (.seq [].toArray 0), #[]⟩) ::
  (nat_lit 575, ⟨(.type "tuple"), none, (.seq [(.str (S "self") 1008), (.str (S "size") 1009), (.str (S "start") 1010), (.str (S "stop") 1011)].toArray 0), #[]⟩) ::
  (nat_lit 576, ⟨(.type "tuple"), none, (.seq [].toArray 0), #[]⟩) ::
  (nat_lit 578, ⟨(.type "code"), none, (.fields [(.str (S "read") 1005), (.str (S "StringIO.read") 1006), (.str (S "/claim/cut.py") 1007), (.int (402) 0), (.int (2) 0), (.int (2) 0), (.int (0) 0), (.int (3) 0), (.ref 573), (.bool true), (.int (318) 0), (.ref 574), .none, (.ref 575), (.ref 576), (.ref 577), (.int (1012) 0), (.int (402) 0), (.str (S "/claim/cut.py") 1013)].toArray), #[]⟩) ::
  (nat_lit 579, ⟨(.type "function"), none, (.func (fnS (cst 17 25) (S "read") (S "StringIO.read") (.ref 572) .none .none (.str (S "io") 427) none (.ref 578) .none)), #[]⟩) ::
  (nat_lit 632, ⟨(.type "dict"), none, (.dict [en P (S "__module__") 804 (.str (S "_io") 809), en P (S "__firstlineno__") 808 (.int (256) 807), en P (S "__init__") 821 (.ref 403), en P (S "_StringIO__translated") 830 (.ref 410), en P (S "_StringIO__check") 837 (.ref 417), en P (S "_StringIO__check_dot") 844 (.ref 424), en P (S "_StringIO__line") 859 (.ref 431), en P (S "closed") 867 (.ref 439), en P (S "line_buffering") 875 (.ref 447), en P (S "newlines") 883 (.ref 455), en P (S "encoding") 891 (.ref 463), en P (S "errors") 899 (.ref 471), en P (S "close") 906 (.ref 478), en P (S "__enter__") 913 (.ref 485), en P (S "__exit__") 921 (.ref 492), en P (S "readable") 928 (.ref 499), en P (S "writable") 935 (.ref 506), en P (S "seekable") 942 (.ref 513), en P (S "isatty") 949 (.ref 520), en P (S "flush") 956 (.ref 527), en P (S "fileno") 963 (.ref 534), en P (S "detach") 970 (.ref 541), en P (S "getvalue") 977 (.ref 548), en P (S "tell") 984 (.ref 555), en P (S "seek") 994 (.ref 563), en P (S "truncate") 1002 (.ref 571), en P (S "read") 1014 (.ref 579), en P (S "readline") 1024 (.ref 587), en P (S "readlines") 1034 (.ref 595), en P (S "__iter__") 1041 (.ref 602), en P (S "__next__") 1049 (.ref 609), en P (S "write") 1061 (.ref 616), en P (S "writelines") 1069 (.ref 623), en P (S "__repr__") 1076 (.ref 630), en P (S "__static_attributes__") 1080 (.ref 631), en P (S "__doc__") 1081 .none].toArray 2), #[]⟩) ::
  (nat_lit 633, ⟨(.type "type"), none, (.cls ⟨(S "StringIO"), [(.ref 156)], [(.ref 633), (.ref 156), (.ref 129), (.type "object")], 632, (S "StringIO"), true, [], [], false, none, false⟩), [some (.ref 389), none, some (.str (S "StringIO") 797), some (.str (S "StringIO") 805), some .none, some (.bool true)].toArray⟩) ::
  (nat_lit 685, ⟨(.type "tuple"), none, (.seq [.none, .none, (.bool false), (.bool false)].toArray 0), #[]⟩) ::
  (nat_lit 686, ⟨(.type "tuple"), none, (.seq [].toArray 0), #[]⟩) ::
  (nat_lit 688, ⟨(.type "tuple"), none, (.seq [(.str (S "self") 1160), (.str (S "instream") 1161), (.str (S "infile") 1162), (.str (S "posix") 1163), (.str (S "punctuation_chars") 1164), (.str (S "t") 1165)].toArray 0), #[]⟩) ::
  (nat_lit 689, ⟨(.type "tuple"), none, (.seq [].toArray 0), #[]⟩) ::
  (nat_lit 691, ⟨(.type "code"), none, (.fields [(.str (S "__init__") 1157), (.str (S "shlex.__init__") 1158), (.str (S "/claim/cut.py") 1159), (.int (528) 0), (.int (5) 0), (.int (0) 0), (.int (0) 0), (.int (3) 0), (.ref 686), (.bool true), (.int (318) 0), (.ref 687), .none, (.ref 688), (.ref 689), (.ref 690), (.int (1166) 0), (.int (528) 0), (.str (S "/claim/cut.py") 1167)].toArray), #[]⟩) ::
  (nat_lit 692, ⟨(.type "function"), none, (.func (fnS (cst 27 0) (S "__init__") (S "shlex.__init__") (.ref 685) .none .none (.str (S "cpy313.shlex") 1143) none (.ref 691) .none)), #[]⟩) ::
  (nat_lit 693, ⟨(.type "tuple"), none, (.seq [].toArray 0), #[]⟩) ::
  (nat_lit 695, ⟨(.type "tuple"), none, (.seq [(.str (S "self") 1172)].toArray 0), #[]⟩) ::
  (nat_lit 696, ⟨(.type "tuple"), none, (.seq [].toArray 0), #[]⟩) ::
  (nat_lit 698, ⟨(.type "code"), none, (.fields [(.str (S "punctuation_chars") 1169), (.str (S "shlex.punctuation_chars") 1170), (.str (S "/claim/cut.py") 1171), (.int (569) 0), (.int (1) 0), (.int (0) 0), (.int (0) 0), (.int (3) 0), (.ref 693), (.bool true), (.int (318) 0), (.ref 694), .none, (.ref 695), (.ref 696), (.ref 697), (.int (1173) 0), (.int (569) 0), (.str (S "/claim/cut.py") 1174)].toArray), #[]⟩) ::
  (nat_lit 699, ⟨(.type "function"), none, (.func (fnS (cst 27 1) (S "punctuation_chars") (S "shlex.punctuation_chars") .none .none .none (.str (S "cpy313.shlex") 1143) none (.ref 698) .none)), #[]⟩) ::
  (nat_lit 700, ⟨(.type "property"), none, (.fields [(.ref 699), .none, .none, .none, (.str (S "punctuation_chars") 1176), (.bool false)].toArray), #[]⟩) ::
  (nat_lit 723, ⟨(.type "tuple"), none, (.seq [].toArray 0), #[]⟩) ::
  (nat_lit 725, ⟨(.type "tuple"), none, (.seq [(.str (S "self") 1204), (.str (S "tok") 1205), (.str (S "raw") 1206), (.str (S "spec") 1207), (.str (S "newfile") 1208), (.str (S "newstream") 1209)].toArray 0), #[]⟩) ::
  (nat_lit 726, ⟨(.type "tuple"), none, (.seq [].toArray 0), #[]⟩) ::
  (nat_lit 728, ⟨(.type "code"), none, (.fields [(.str (S "get_token") 1201), (.str (S "shlex.get_token") 1202), (.str (S "/claim/cut.py") 1203), (.int (596) 0), (.int (1) 0), (.int (0) 0), (.int (0) 0), (.int (3) 0), (.ref 723), (.bool true), (.int (318) 0), (.ref 724), .none, (.ref 725), (.ref 726), (.ref 727), (.int (1210) 0), (.int (596) 0), (.str (S "/claim/cut.py") 1211)].toArray), #[]⟩) ::
  (nat_lit 729, ⟨(.type "function"), none, (.func (fnS (cst 27 5) (S "get_token") (S "shlex.get_token") .none .none .none (.str (S "cpy313.shlex") 1143) none (.ref 728) .none)), #[]⟩) ::
  (nat_lit 730, ⟨(.type "tuple"), none, (.seq [].toArray 0), #[]⟩) ::
  (nat_lit 732, ⟨(.type "tuple"), none, (.seq [(.str (S "self") 1216), (.str (S "quoted") 1217), (.str (S "escapedstate") 1218), (.str (S "nextchar") 1219), (.str (S "result") 1220)].toArray 0), #[]⟩) ::
  (nat_lit 733, ⟨(.type "tuple"), none, (.seq [].toArray 0), #[]⟩) ::
  (nat_lit 735, ⟨(.type "code"), none, (.fields [(.str (S "read_token") 1213), (.str (S "shlex.read_token") 1214), (.str (S "/claim/cut.py") 1215), (.int (623) 0), (.int (1) 0), (.int (0) 0), (.int (0) 0), (.int (3) 0), (.ref 730), (.bool true), (.int (318) 0), (.ref 731), .none, (.ref 732), (.ref 733), (.ref 734), (.int (1221) 0), (.int (623) 0), (.str (S "/claim/cut.py") 1222)].toArray), #[]⟩) ::
  (nat_lit 736, ⟨(.type "function"), none, (.func (fnS (cst 27 6) (S "read_token") (S "shlex.read_token") .none .none .none (.str (S "cpy313.shlex") 1143) none (.ref 735) .none)), #[]⟩) ::
  (nat_lit 752, ⟨(.type "tuple"), none, (.seq [].toArray 0), #[]⟩) ::
  (nat_lit 754, ⟨(.type "tuple"), none, (.seq [(.str (S "self") 1244)].toArray 0), #[]⟩) ::
  (nat_lit 755, ⟨(.type "tuple"), none, (.seq [].toArray 0), #[]⟩) ::
  (nat_lit 757, ⟨(.type "code"), none, (.fields [(.str (S "__iter__") 1241), (.str (S "shlex.__iter__") 1242), (.str (S "/claim/cut.py") 1243), (.int (770) 0), (.int (1) 0), (.int (0) 0), (.int (0) 0), (.int (3) 0), (.ref 752), (.bool true), (.int (318) 0), (.ref 753), .none, (.ref 754), (.ref 755), (.ref 756), (.int (1245) 0), (.int (770) 0), (.str (S "/claim/cut.py") 1246)].toArray), #[]⟩) ::
  (nat_lit 758, ⟨(.type "function"), none, (.func (fnS (cst 27 9) (S "__iter__") (S "shlex.__iter__") .none .none .none (.str (S "cpy313.shlex") 1143) none (.ref 757) .none)), #[]⟩) ::
  (nat_lit 759, ⟨(.type "tuple"), none, (.seq [].toArray 0), #[]⟩) ::
  (nat_lit 761, ⟨(.type "tuple"), none, (.seq [(.str (S "self") 1251), (.str (S "token") 1252)].toArray 0), #[]⟩) ::
  (nat_lit 762, ⟨(.type "tuple"), none, (.seq [].toArray 0), #[]⟩) ::
  (nat_lit 764, ⟨(.type "code"), none, (.fields [(.str (S "__next__") 1248), (.str (S "shlex.__next__") 1249), (.str (S "/claim/cut.py") 1250), (.int (773) 0), (.int (1) 0), (.int (0) 0), (.int (0) 0), (.int (3) 0), (.ref 759), (.bool true), (.int (318) 0), (.ref 760), .none, (.ref 761), (.ref 762), (.ref 763), (.int (1253) 0), (.int (773) 0), (.str (S "/claim/cut.py") 1254)].toArray), #[]⟩) ::
  (nat_lit 765, ⟨(.type "function"), none, (.func (fnS (cst 27 10) (S "__next__") (S "shlex.__next__") .none .none .none (.str (S "cpy313.shlex") 1143) none (.ref 764) .none)), #[]⟩) ::
  (nat_lit 767, ⟨(.type "dict"), none, (.dict [en P (S "__module__") 1152 (.str (S "cpy313.shlex") 1143), en P (S "__firstlineno__") 1156 (.int (526) 1155), en P (S "__init__") 1168 (.ref 692), en P (S "punctuation_chars") 1176 (.ref 700), en P (S "push_token") 1184 (.ref 707), en P (S "push_source") 1193 (.ref 715), en P (S "pop_source") 1200 (.ref 722), en P (S "get_token") 1212 (.ref 729), en P (S "read_token") 1223 (.ref 736), en P (S "sourcehook") 1231 (.ref 743), en P (S "error_leader") 1240 (.ref 751), en P (S "__iter__") 1247 (.ref 758), en P (S "__next__") 1255 (.ref 765), en P (S "__static_attributes__") 1276 (.ref 766), en P (S "__dict__") 1278 (.ref 769), en P (S "__weakref__") 1280 (.ref 770), en P (S "__doc__") 1281 .none].toArray 4), #[]⟩) ::
  (nat_lit 768, ⟨(.type "type"), none, (.cls ⟨(S "shlex"), [(.type "object")], [(.ref 768), (.type "object")], 767, (S "shlex"), true, [], [], false, none, false⟩), [none, none, some (.str (S "shlex") 1145), some (.str (S "shlex") 1153), some (.builtin "object.__new__"), some (.bool true)].toArray⟩) ::
  (nat_lit 773, ⟨(.type "tuple"), none, (.seq [(.bool false), (.bool true)].toArray 0), #[]⟩) ::
  (nat_lit 774, ⟨(.type "tuple"), none, (.seq [].toArray 0), #[]⟩) ::
  (nat_lit 776, ⟨(.type "tuple"), none, (.seq [(.str (S "s") 1287), (.str (S "comments") 1288), (.str (S "posix") 1289), (.str (S "lex") 1290)].toArray 0), #[]⟩) ::
  (nat_lit 777, ⟨(.type "tuple"), none, (.seq [].toArray 0), #[]⟩) ::
  (nat_lit 779, ⟨(.type "code"), none, (.fields [(.str (S "split") 1284), (.str (S "split") 1285), (.str (S "/claim/cut.py") 1286), (.int (778) 0), (.int (3) 0), (.int (0) 0), (.int (0) 0), (.int (3) 0), (.ref 774), (.bool true), (.int (318) 0), (.ref 775), .none, (.ref 776), (.ref 777), (.ref 778), (.int (1291) 0), (.int (778) 0), (.str (S "/claim/cut.py") 1292)].toArray), #[]⟩) ::
  (nat_lit 780, ⟨(.type "function"), none, (.func (fnS (st 28) (S "split") (S "split") (.ref 773) .none .none (.str (S "cpy313.shlex") 1143) none (.ref 779) .none)), #[]⟩) ::
  (nat_lit 781, ⟨(.type "tuple"), none, (.seq [].toArray 0), #[]⟩) ::
  (nat_lit 783, ⟨(.type "tuple"), none, (.seq [(.str (S "split_command") 1297)].toArray 0), #[]⟩) ::
  (nat_lit 784, ⟨(.type "tuple"), none, (.seq [].toArray 0), #[]⟩) ::
  (nat_lit 786, ⟨(.type "code"), none, (.fields [(.str (S "join") 1294), (.str (S "join") 1295), (.str (S "/claim/cut.py") 1296), (.int (786) 0), (.int (1) 0), (.int (0) 0), (.int (0) 0), (.int (3) 0), (.ref 781), (.bool true), (.int (318) 0), (.ref 782), .none, (.ref 783), (.ref 784), (.ref 785), (.int (1298) 0), (.int (786) 0), (.str (S "/claim/cut.py") 1299)].toArray), #[]⟩) ::
  (nat_lit 787, ⟨(.type "function"), none, (.func (fnS (st 29) (S "join") (S "join") .none .none .none (.str (S "cpy313.shlex") 1143) none (.ref 786) .none)), #[]⟩) ::
  (nat_lit 788, ⟨(.type "builtin_function_or_method"), none, (.fields [(.builtin "re.Pattern.search"), (.ref 85)].toArray), #[]⟩) ::
  (nat_lit 789, ⟨(.type "tuple"), none, (.seq [].toArray 0), #[]⟩) ::
  (nat_lit 791, ⟨(.type "tuple"), none, (.seq [(.str (S "s") 1307)].toArray 0), #[]⟩) ::
  (nat_lit 792, ⟨(.type "tuple"), none, (.seq [].toArray 0), #[]⟩) ::
  (nat_lit 794, ⟨(.type "code"), none, (.fields [(.str (S "quote") 1304), (.str (S "quote") 1305), (.str (S "/claim/cut.py") 1306), (.int (790) 0), (.int (1) 0), (.int (0) 0), (.int (0) 0), (.int (3) 0), (.ref 789), (.bool true), (.int (318) 0), (.ref 790), .none, (.ref 791), (.ref 792), (.ref 793), (.int (1308) 0), (.int (790) 0), (.str (S "/claim/cut.py") 1309)].toArray), #[]⟩) ::
  (nat_lit 795, ⟨(.type "function"), none, (.func (fnS (st 32) (S "quote") (S "quote") .none .none .none (.str (S "cpy313.shlex") 1143) none (.ref 794) .none)), #[]⟩) ::
  (nat_lit 796, ⟨(.type "tuple"), none, (.seq [].toArray 0), #[]⟩) ::
  (nat_lit 798, ⟨(.type "tuple"), none, (.seq [(.str (S "script") 1316), (.str (S "words") 1317), (.str (S "x") 1318)].toArray 0), #[]⟩) ::
  (nat_lit 799, ⟨(.type "tuple"), none, (.seq [].toArray 0), #[]⟩) ::
  (nat_lit 801, ⟨(.type "code"), none, (.fields [(.str (S "_law_words") 1313), (.str (S "_law_words") 1314), (.str (S "/claim/cut.py") 1315), (.int (797) 0), (.int (1) 0), (.int (0) 0), (.int (0) 0), (.int (3) 0), (.ref 796), (.bool true), (.int (318) 0), (.ref 797), .none, (.ref 798), (.ref 799), (.ref 800), (.int (1319) 0), (.int (797) 0), (.str (S "/claim/cut.py") 1320)].toArray), #[]⟩) ::
  (nat_lit 802, ⟨(.type "function"), none, (.func (fnS (st 34) (S "_law_words") (S "_law_words") .none .none .none (.str (S "law_mr0367_01") 1311) none (.ref 801) .none)), #[]⟩) ::
  (nat_lit 803, ⟨(.type "tuple"), none, (.seq [].toArray 0), #[]⟩) ::
  (nat_lit 805, ⟨(.type "tuple"), none, (.seq [(.str (S "item") 1325)].toArray 0), #[]⟩) ::
  (nat_lit 806, ⟨(.type "tuple"), none, (.seq [].toArray 0), #[]⟩) ::
  (nat_lit 808, ⟨(.type "code"), none, (.fields [(.str (S "_law_written") 1322), (.str (S "_law_written") 1323), (.str (S "/claim/cut.py") 1324), (.int (805) 0), (.int (1) 0), (.int (0) 0), (.int (0) 0), (.int (3) 0), (.ref 803), (.bool true), (.int (318) 0), (.ref 804), .none, (.ref 805), (.ref 806), (.ref 807), (.int (1326) 0), (.int (805) 0), (.str (S "/claim/cut.py") 1327)].toArray), #[]⟩) ::
  (nat_lit 809, ⟨(.type "function"), none, (.func (fnS (st 35) (S "_law_written") (S "_law_written") .none .none .none (.str (S "law_mr0367_01") 1311) none (.ref 808) .none)), #[]⟩) ::
  (nat_lit 810, ⟨(.type "tuple"), none, (.seq [].toArray 0), #[]⟩) ::
  (nat_lit 813, ⟨(.type "code"), none, (.fields [(.str (S "_law_block") 1329), (.str (S "_law_block") 1330), (.str (S "/claim/cut.py") 1331), (.int (807) 0), (.int (1) 0), (.int (0) 0), (.int (0) 0), (.int (3) 0), (.ref 810), (.bool true), (.int (318) 0), (.ref 811), .none, .none, .none, (.ref 812), (.int (1332) 0), (.int (807) 0), (.str (S "/claim/cut.py") 1333)].toArray), #[]⟩) ::
  (nat_lit 814, ⟨(.type "function"), none, (.func (fnS (st 36) (S "_law_block") (S "_law_block") .none .none .none (.str (S "law_mr0367_01") 1311) none (.ref 813) .none)), #[]⟩) ::
  (nat_lit 815, ⟨(.type "tuple"), none, (.seq [].toArray 0), #[]⟩) ::
  (nat_lit 817, ⟨(.type "tuple"), none, (.seq [(.str (S "one") 1338), (.str (S "other") 1339)].toArray 0), #[]⟩) ::
  (nat_lit 818, ⟨(.type "tuple"), none, (.seq [].toArray 0), #[]⟩) ::
  (nat_lit 820, ⟨(.type "code"), none, (.fields [(.str (S "_law_ahead") 1335), (.str (S "_law_ahead") 1336), (.str (S "/claim/cut.py") 1337), (.int (811) 0), (.int (2) 0), (.int (0) 0), (.int (0) 0), (.int (3) 0), (.ref 815), (.bool true), (.int (318) 0), (.ref 816), .none, (.ref 817), (.ref 818), (.ref 819), (.int (1340) 0), (.int (811) 0), (.str (S "/claim/cut.py") 1341)].toArray), #[]⟩) ::
  (nat_lit 821, ⟨(.type "function"), none, (.func (fnS (st 37) (S "_law_ahead") (S "_law_ahead") .none .none .none (.str (S "law_mr0367_01") 1311) none (.ref 820) .none)), #[]⟩) ::
  (nat_lit 822, ⟨(.type "tuple"), none, (.seq [].toArray 0), #[]⟩) ::
  (nat_lit 825, ⟨(.type "code"), none, (.fields [(.str (S "_law_kept") 1343), (.str (S "_law_kept") 1344), (.str (S "/claim/cut.py") 1345), (.int (817) 0), (.int (1) 0), (.int (0) 0), (.int (0) 0), (.int (3) 0), (.ref 822), (.bool true), (.int (318) 0), (.ref 823), .none, .none, .none, (.ref 824), (.int (1346) 0), (.int (817) 0), (.str (S "/claim/cut.py") 1347)].toArray), #[]⟩) ::
  (nat_lit 826, ⟨(.type "function"), none, (.func (fnS (st 38) (S "_law_kept") (S "_law_kept") .none .none .none (.str (S "law_mr0367_01") 1311) none (.ref 825) .none)), #[]⟩) ::
  (nat_lit 827, ⟨(.type "tuple"), none, (.seq [].toArray 0), #[]⟩) ::
  (nat_lit 829, ⟨(.type "tuple"), none, (.seq [(.str (S "script") 1352), (.str (S "words") 1353), (.str (S "told") 1354)].toArray 0), #[]⟩) ::
  (nat_lit 830, ⟨(.type "tuple"), none, (.seq [].toArray 0), #[]⟩) ::
  (nat_lit 832, ⟨(.type "code"), none, (.fields [(.str (S "law") 1349), (.str (S "law") 1350), (.str (S "/claim/cut.py") 1351), (.int (837) 0), (.int (1) 0), (.int (0) 0), (.int (0) 0), (.int (3) 0), (.ref 827), (.bool true), (.int (318) 0), (.ref 828), .none, (.ref 829), (.ref 830), (.ref 831), (.int (1355) 0), (.int (837) 0), (.str (S "/claim/cut.py") 1356)].toArray), #[]⟩) ::
  (nat_lit 833, ⟨(.type "function"), none, (.func (fnS (st 39) (S "law") (S "law") .none .none .none (.str (S "law_mr0367_01") 1311) none (.ref 832) .none)), #[]⟩) ::
  []
/-! the top's run, over a tree, and that it is the run -/
def importEndsT (tb : String → Option Builtin) (prog : Program) (w : World) : Nat → SharedT → Thread → Option SharedT
  | 0, _, _ => none
  | n + 1, s, t => match t.atExitBegin with
    | some [] => some s
    | some (_ :: _) => none
    | none => match stepT (denote tb) prog w s t with
      | some (s', t') => importEndsT tb prog w n s' t'
      | none => none
theorem importEndsT_spec {tb : String → Option Builtin} {p : Program} {w : World} : ∀ (n : Nat) (s : SharedT) (t : Thread) (r : SharedT), importEndsT tb p w n s t = some r → importEnds tb p w n s.abs t = some r.abs
  | 0, _, _, _, h => by simp [importEndsT] at h
  | n + 1, s, t, r, h => by
    unfold importEndsT at h
    unfold importEnds
    cases ht : t.atExitBegin with
    | some l =>
      rw [ht] at h
      cases l with
      | nil => cases h; rfl
      | cons a b => cases h
    | none =>
      rw [ht] at h
      cases hs : stepT (denote tb) p w s t with
      | none => rw [hs] at h; cases h
      | some x =>
        obtain ⟨s', t'⟩ := x
        rw [hs] at h
        dsimp only at h ⊢
        rw [stepT_spec hs]
        exact importEndsT_spec n s' t' r h
def topRunT (tb : String → Option Builtin) (p : Program) (w : World) (n₀ : Nat) (ann : Option Value) : Nat → SharedT → Thread → Option SharedT
  | 0, _, _ => none
  | n + 1, s, t => match through t with
    | true => some s
    | false => match stepOk n₀ ann t with
      | false => none
      | true => match stepT (denote tb) p w s t with
        | some (s', t') => topRunT tb p w n₀ ann n s' t'
        | none => none
theorem topRunT_spec {tb : String → Option Builtin} {p : Program} {w : World} {n₀ : Nat} {ann : Option Value} : ∀ (n : Nat) (s : SharedT) (t : Thread) (r : SharedT), topRunT tb p w n₀ ann n s t = some r → topRun tb p w n₀ ann n s.abs t = some r.abs
  | 0, _, _, _, h => by simp [topRunT] at h
  | n + 1, s, t, r, h => by
    unfold topRunT at h
    unfold topRun
    cases ht : through t with
    | true => rw [ht] at h; cases h; rfl
    | false =>
      rw [ht] at h
      cases hk : stepOk n₀ ann t with
      | false => rw [hk] at h; cases h
      | true =>
        rw [hk] at h
        cases hs : stepT (denote tb) p w s t with
        | none => rw [hs] at h; cases h
        | some x =>
          obtain ⟨s', t'⟩ := x
          rw [hs] at h
          dsimp only at h ⊢
          rw [stepT_spec hs]
          exact topRunT_spec n s' t' r h
def ofListC : List Obj → Nat → BT → Option BT
  | [], _, t => some t
  | o :: l, n, t => match ((t.ins n o).get n).isSome with
    | true => ofListC l (n + 1) (t.ins n o)
    | false => none
theorem ofListC_spec {life : Life} : ∀ (l : List Obj) (n : Nat) (t t' : BT), ofListC l n t = some t' → absHeap t' (n + l.length) life = ⟨(absHeap t n life).objs ++ l.toArray, life⟩
  | [], n, t, t', h => by cases h; simp [absHeap]
  | o :: l, n, t, t', h => by
    unfold ofListC at h
    cases e : ((t.ins n o).get n).isSome with
    | false => rw [e] at h; cases h
    | true =>
      rw [e] at h
      have z := ofListC_spec (life := life) l (n + 1) (t.ins n o) t' h
      rw [List.length_cons, show n + (l.length + 1) = n + 1 + l.length by omega, z, absHeap_ins e]
      simp [Heap.push]
def openT (tb : String → Option Builtin) (p : Program) (w : World) (N : Nat) : Option Shared :=
  (importEndsT tb (opening p) w N ⟨.nil, 0, (start (opening p)).1.heap.life, (start (opening p)).1.gens, (start (opening p)).1.drawn, (start (opening p)).1.toks, (start (opening p)).1.os⟩ (start (opening p)).2).bind fun s => fenceModules? p s.abs
theorem openT_spec {tb : String → Option Builtin} {p : Program} {w : World} {N : Nat} {s₀ : Shared} (h : openT tb p w N = some s₀) : fencedOpening tb p w N = some s₀ := by
  obtain ⟨s, h1, h2⟩ := Option.bind_eq_some_iff.mp h
  unfold fencedOpening
  have e := importEndsT_spec _ _ _ _ h1
  have e2 : importEnds tb (opening p) w N (start (opening p)).1 (start (opening p)).2 = some s.abs := e
  rw [e2]
  exact h2
def headRun (tb : String → Option Builtin) (p : Program) (w : World) (N : Nat) : Option (Shared × SharedT) :=
  (openT tb p w N).bind fun s₀ => match s₀.heap.isNs mainGlobals && s₀.gens.size == 0 with
    | true => (ofListC s₀.heap.objs.toList 0 .nil).bind fun T =>
        (topRunT tb p w s₀.heap.objs.size (s₀.heap.nsMap mainGlobals "__annotations__") N ⟨T, s₀.heap.objs.size, s₀.heap.life, s₀.gens, s₀.drawn, s₀.toks, s₀.os⟩ (topStub p)).map fun s₁ => (s₀, s₁)
    | false => none
theorem left_of {p q : Program} {loose : List Str} {Xt : Shared → Bool} {α : Type} {Yf : Shared → α} {Ya : World → α} {N : Nat}
    (h : ∀ w, (headRun treeTable p w N).map (fun r => (staticsOk (importedModules p.main.body) r.1.heap r.2.abs.heap && namesBound p r.2.abs.heap && gensDone r.2.abs && laidKept r.1.heap r.2.abs.heap,
      openSeen q loose (importedModules p.main.body) Xt true r.2.abs, Yf r.2.abs)) = some (true, openGood q loose, Ya w)) : LeftO p q loose Xt Yf Ya N := fun w => by
  obtain ⟨⟨s₀, s₁⟩, h1, h2⟩ := Option.map_eq_some_iff.mp (h w)
  obtain ⟨s₀', h3, h4⟩ := Option.bind_eq_some_iff.mp h1
  cases hc : (s₀'.heap.isNs mainGlobals && s₀'.gens.size == 0) with
  | false => rw [hc] at h4; cases h4
  | true =>
    rw [hc] at h4
    obtain ⟨T, h5, h6⟩ := Option.bind_eq_some_iff.mp h4
    obtain ⟨s₁', h7, h8⟩ := Option.map_eq_some_iff.mp h6
    cases h8
    have e0 : (⟨T, s₀.heap.objs.size, s₀.heap.life, s₀.gens, s₀.drawn, s₀.toks, s₀.os⟩ : SharedT).abs = s₀ := by
      have z := ofListC_spec (life := s₀.heap.life) _ _ _ _ h5
      have z2 : absHeap T s₀.heap.objs.size s₀.heap.life = s₀.heap := by
        rw [Nat.zero_add, Array.length_toList] at z
        rw [z]
        have : (absHeap BT.nil 0 s₀.heap.life).objs = #[] := rfl
        rw [this]
        simp
      show (⟨absHeap T s₀.heap.objs.size s₀.heap.life, s₀.gens, s₀.drawn, s₀.toks, s₀.os⟩ : Shared) = s₀
      rw [z2]
    have r := topRunT_spec _ _ _ _ h7
    rw [e0] at r
    obtain ⟨l1, l2⟩ := Prod.mk.inj h2
    have t : topFrom treeTable p w N s₀ = some s₁.abs := by
      unfold topFrom
      rw [hc]
      dsimp only
      rw [r]
      show (match staticsOk (importedModules p.main.body) s₀.heap s₁.abs.heap && namesBound p s₁.abs.heap && gensDone s₁.abs && laidKept s₀.heap s₁.abs.heap with | true => _ | false => _) = _
      rw [l1]
    unfold openEnds
    rw [openT_spec h3]
    show (topFrom treeTable p w N s₀).map _ = _
    rw [t]
    exact congrArg some l2
/-! the same, by the library's quick twins -/
noncomputable def importEndsQ (tb : String → Option Builtin) (prog : Program) (w : World) : Nat → SharedT → Thread → Option SharedT
  | 0, _, _ => none
  | n + 1, s, t => match PySem.W.Fast.tw3805553451399329143 t with
    | some [] => some s
    | some (_ :: _) => none
    | none => match PySem.W.Fast.tw10156331382660048174 (PySem.W.Fast.tw11892475500146522536 tb) prog w s t with
      | some (s', t') => importEndsQ tb prog w n s' t'
      | none => none
theorem importEndsQ_eq {tb : String → Option Builtin} {p : Program} {w : World} : ∀ (n : Nat) (s : SharedT) (t : Thread), importEndsT tb p w n s t = importEndsQ tb p w n s t
  | 0, _, _ => rfl
  | n + 1, s, t => by
    unfold importEndsT importEndsQ
    simp only [← PySem.W.Fast.te3805553451399329143, ← PySem.W.Fast.te10156331382660048174, ← PySem.W.Fast.te11892475500146522536, importEndsQ_eq n]
noncomputable def topRunQ (tb : String → Option Builtin) (p : Program) (w : World) (n₀ : Nat) (ann : Option Value) : Nat → SharedT → Thread → Option SharedT
  | 0, _, _ => none
  | n + 1, s, t => match through t with
    | true => some s
    | false => match PySem.W.Fast.tw6613529449190102663 n₀ ann t with
      | false => none
      | true => match PySem.W.Fast.tw10156331382660048174 (PySem.W.Fast.tw11892475500146522536 tb) p w s t with
        | some (s', t') => topRunQ tb p w n₀ ann n s' t'
        | none => none
theorem topRunQ_eq {tb : String → Option Builtin} {p : Program} {w : World} {n₀ : Nat} {ann : Option Value} : ∀ (n : Nat) (s : SharedT) (t : Thread), topRunT tb p w n₀ ann n s t = topRunQ tb p w n₀ ann n s t
  | 0, _, _ => rfl
  | n + 1, s, t => by
    unfold topRunT topRunQ
    simp only [← PySem.W.Fast.te6613529449190102663, ← PySem.W.Fast.te10156331382660048174, ← PySem.W.Fast.te11892475500146522536, topRunQ_eq n]
noncomputable def openQ (p : Program) (w : World) (N : Nat) : Option Shared :=
  (importEndsQ PySem.W.Fast.tw14364793385576792824 (opening p) w N ⟨.nil, 0, (PySem.W.Fast.tw1435165496053646825 (opening p)).1.heap.life, (PySem.W.Fast.tw1435165496053646825 (opening p)).1.gens, (PySem.W.Fast.tw1435165496053646825 (opening p)).1.drawn, (PySem.W.Fast.tw1435165496053646825 (opening p)).1.toks, (PySem.W.Fast.tw1435165496053646825 (opening p)).1.os⟩ (PySem.W.Fast.tw1435165496053646825 (opening p)).2).bind fun s => PySem.W.Fast.tw14289696077712309145 p s.abs
theorem openQ_eq {p : Program} {w : World} {N : Nat} : openT treeTable p w N = openQ p w N := by
  unfold openT openQ
  simp only [← PySem.W.Fast.te14364793385576792824, ← PySem.W.Fast.te1435165496053646825, ← PySem.W.Fast.te14289696077712309145, importEndsQ_eq]
noncomputable def headQ (p : Program) (w : World) (N : Nat) : Option (Shared × SharedT) :=
  (openQ p w N).bind fun s₀ => match s₀.heap.isNs mainGlobals && s₀.gens.size == 0 with
    | true => (ofListC s₀.heap.objs.toList 0 .nil).bind fun T =>
        (topRunQ PySem.W.Fast.tw14364793385576792824 p w s₀.heap.objs.size (PySem.W.Fast.tw8920871248978507458 s₀.heap mainGlobals "__annotations__") N ⟨T, s₀.heap.objs.size, s₀.heap.life, s₀.gens, s₀.drawn, s₀.toks, s₀.os⟩ (topStub p)).map fun s₁ => (s₀, s₁)
    | false => none
theorem headQ_eq {p : Program} {w : World} {N : Nat} : headRun treeTable p w N = headQ p w N := by
  unfold headRun headQ
  simp only [← PySem.W.Fast.te14364793385576792824, ← PySem.W.Fast.te8920871248978507458, openQ_eq, topRunQ_eq]
/-! the head -/
def q : Program := view PySem.Challenge.pw_mr0367_01 [0, 1, 39]
def loose : List Str := [S "_wall", S "insort_right", S "bisect_right", S "insort_left", S "bisect_left", S "_twin_re_1", S "_whence", S "_index", S "UnsupportedOperation", S "IOBase", S "BufferedIOBase", S "TextIOBase", S "BytesIO", S "StringIO", S "_kind", S "_fspath", S "_check_arg_types", S "isabs", S "join", S "join_path", S "dirname", S "shlex", S "split", S "join_shlex", S "_find_unsafe", S "quote", S "_law_words", S "_law_written", S "_law_block", S "_law_ahead", S "_law_kept"]
def kAs : List Addr := [2, 3, 45, 46, 47, 49, 50, 52, 53, 54, 55, 56, 58, 59, 61, 62, 63, 64, 65, 67, 68, 70, 71, 72, 73, 74, 76, 77, 79, 80, 84, 85, 93, 95, 96, 98, 99, 120, 122, 123, 125, 126, 128, 129, 130, 135, 143, 144, 147, 155, 156, 159, 385, 386, 389, 396, 397, 399, 400, 402, 403, 404, 406, 407, 409, 410, 411, 413, 414, 416, 417, 572, 573, 575, 576, 578, 579, 632, 633, 685, 686, 688, 689, 691, 692, 693, 695, 696, 698, 699, 700, 723, 725, 726, 728, 729, 730, 732, 733, 735, 736, 752, 754, 755, 757, 758, 759, 761, 762, 764, 765, 767, 768, 773, 774, 776, 777, 779, 780, 781, 783, 784, 786, 787, 788, 789, 791, 792, 794, 795, 796, 798, 799, 801, 802, 803, 805, 806, 808, 809, 810, 813, 814, 815, 817, 818, 820, 821, 822, 825, 826, 827, 829, 830, 832, 833]
theorem kAs_eq (P : Params) : kAs = (K P).map (·.1) := by kernel_rfl
abbrev xt (s : Shared) : Bool := xlAt q [] s && recOk (RowW.records PySem.Challenge.rw_mr0367_01.row.toRowW) s
theorem said : PySem.Challenge.rw_mr0367_01.wellSaid = true := by
  rw [PySem.W.Fast.te9446332074065402090]
  decide +kernel
def lawD : DefRec := ⟨S "law", fParams (st 39), fBody (st 39), fScope (st 39), ⟨837, 0, 840, 57⟩⟩
abbrev tabO (ps : Array Value) : Obj := { cls := .none, data := .fields ps }
section
/-- what the top leaves, with join's table of codes -/
noncomputable def KX (P : Params) : Frag := (nat_lit 782, tabO #[]) :: K P
def kAsX : List Addr := nat_lit 782 :: kAs
theorem kAsX_eq (P : Params) : kAsX = (KX P).map (·.1) := by unfold kAsX KX; rw [kAs_eq P]; rfl
theorem run_isX (w : World) : (headQ PySem.Challenge.pw_mr0367_01 w 20000).map (fun r => (staticsOk (importedModules PySem.Challenge.pw_mr0367_01.main.body) r.1.heap r.2.abs.heap && namesBound PySem.Challenge.pw_mr0367_01 r.2.abs.heap && gensDone r.2.abs && laidKept r.1.heap r.2.abs.heap,
      PySem.W.Fast.tw4187177175401517315 q loose (importedModules PySem.Challenge.pw_mr0367_01.main.body) xt true r.2.abs, kAsX.map r.2.abs.heap.get?)) = some (true, openGood q loose, (KX w.params).map fun p => some p.2) := by kernel_rfl
noncomputable abbrev hookX : Hook := kHook KX kAsX kAsX_eq
theorem leftX : LeftO PySem.Challenge.pw_mr0367_01 q loose xt hookX.obs hookX.val 20000 := left_of (fun w => by
  have h := run_isX w
  rw [← PySem.W.Fast.te4187177175401517315] at h
  rw [headQ_eq]
  exact h)
theorem hdX (call : WalkO q loose (XL q []) hookX.says PySem.Challenge.rw_mr0367_01.row.toRowW lawD [] fun f vs => PySem.call f vs) : PySem.Challenge.rw_mr0367_01.Holds :=
  holds_law said fun said => holds_open (q := q) (loose := loose) (Xt := xt) (XP := XL q []) (Yf := hookX.obs) (Ya := hookX.val) (YP := hookX.says) (N := 20000) leftX hookX.of hookX.keeps
    (fun s e => xl_of s (Bool.and_eq_true_iff.mp e).1) XL.keeps (d := lawD) (kwd := []) (by kernel_rfl) (by kernel_rfl) (by kernel_rfl) (fun s e => recFacts_of (Bool.and_eq_true_iff.mp e).2) (by kernel_rfl) said (by decide +kernel)
    ⟨rfl, rfl, rfl, rfl, rfl, by decide +kernel⟩ (by w_witness2) call
end
section
/-- a call that keeps the ledger and hands back `R t` -/
def Gives (w : World) (f : Addr) (vs : List Value) (R : Tok → Value) (d u : Nat) : Prop :=
  ∀ (p : Program) (loose : List Str) (mean : ExcName → Option Value) (mg mb : Str → Option Value) (news : List (Addr × Obj)) (dp un : Nat) (gd : Option (List Code)) (cn : Str) (cs : Scope) (a : Addr) (ccd : Value) (cl : List (Str × Addr)) (outer : List Env) (A₀ : Around) (base h₀ : Heap) (L : Addr) (m : Str → Option Value) (s : Shared) (Q E : Value → Shared → Prop),
    Below A₀ base outer h₀ → Fr h₀ L s.heap m → (K w.params).In h₀ → News h₀ L s.heap news → Top p loose mean mg mb h₀ → cs.kind = .function → dp + d < recursionLimit → un + u < cLine →
    (∀ t h' tk', Fr h₀ L h' m → News h₀ L h' news → Q (R t) { s with heap := h', toks := tk' }) →
    wpAny (model PySem.Challenge.rw_mr0367_01.prog w) (ktrTop dp un gd cn cs L a ccd cl outer) (call (.ref f) vs) Q E s
section
variable {w : World} {A A₀ : Around} {s : Shared} {k : Frag} {L : Addr} {h₀ base : Heap} {m mg mb : Str → Option Value} {news : List (Addr × Obj)} {p : Program} {loose : List Str} {mean : ExcName → Option Value}
/-- a def of the text is entered: its parts made explicit -/
theorem enter {env : Env} {outer : List Env} {R : Result → Shared → Prop} {name qual : Str} {stm : Stmt} {pr : Arguments} {b : List Stmt} {sc : Scope} {dV kV doc pm cdv ct oc : Value} {an od : Option Addr} {osl : Array (Option Value)} {f : Addr} {args : Args} {binds : List (Str × Value)}
    (hp : fParams stm = pr) (hb : fBody stm = b) (hsc : fScope stm = sc)
    (B : Below A₀ base outer h₀) (F : Fr h₀ L s.heap m) (X₀ : k.In h₀) (N : News h₀ L s.heap news) (T : Top p loose mean mg mb h₀) (hA : A.frames = some (env :: outer)) (hf : env.frame = some L) (hke : env.scope.kind = .function)
    (ho : k.lookup f = some ⟨oc, od, .func (fnS stm name qual dV kV doc pm an cdv ct), osl⟩) (hcd : codeIn k cdv qual = true) (hroom : A.depth < recursionLimit)
    (hbind : BindsTo s (fnS stm name qual dV kV doc pm an cdv ct) args binds) (hloc : ∀ y ∈ binds, sc.names.lookup y.1 = some .local)
    (h : ∀ g L' h₁, Fr h₀ L g m → Fr g L' h₁ (fun y => binds.reverse.lookup y) → News g L' h₁ news → Below A base (env :: outer) g → k.In g → Top p loose mean mg mb g →
      wpAny (model PySem.Challenge.rw_mr0367_01.prog w) (A.deeper (envOf qual sc L' f cdv)) (execs b (envOf qual sc L' f cdv))
        (fun fl s' => LeaveK h₀ L m g R (match fl with | .ret v => v | _ => .none) s')
        (fun e s' => wpAny (model PySem.Challenge.rw_mr0367_01.prog w) (A.deeper (envOf qual sc L' f cdv)) (leaving (envOf qual sc L' f cdv) e) (fun _ s'' => R (.error e) s'') (fun e' s'' => R (.error e') s'') s')
        { s with heap := h₁, toks := s.toks + binds.length })
    (hco : sc.isCoroutine = false) (hgen : sc.isGenerator = false) (hk : sc.kind = .function)
    (hcell : ∀ x ∈ sc.names, x.2 ≠ .cell) : codeAny (model PySem.Challenge.rw_mr0367_01.prog w) A (.call (.ref f) args) R s := by
  subst hp hb hsc
  exact code_def B F X₀ N T hA hf hke ho hcd hroom hbind hloc h hco hgen hk hcell
end
/-- the arguments are bound as a look at the written part tells -/
theorem bindsTo_peek {k : Frag} {s : Shared} {fd : FuncData} {args : Args} {binds : List (Str × Value)} (X : k.In s.heap) (e : ∀ S, peek k S (bindArgs fd args) = some binds) : BindsTo s fd args binds :=
  fun M _ _ _ hq => (Looks.of_peek (M := M) X (e _)).here hq
theorem Fr.cast {h₀ h : Heap} {L : Addr} {m m' : Str → Option Value} (F : Fr h₀ L h m) (e : ∀ y, m y = m' y) : Fr h₀ L h m' := (funext e : m = m') ▸ F
section
variable {prog : Program} {w : World} {A : Around} {E : Value → Shared → Prop} {s : Shared} {env : Env} {test : PySem.Expr} {body orelse : List Stmt} {Q : Flow → Shared → Prop}
/-- a turn's end -/
def Again (I : Nat → Shared → Prop) (n : Nat) (s : Shared) : Prop := ∃ m, m < n ∧ I m s
/-- a while that raises nothing, by an invariant and a measure -/
theorem whl_by {pos : Pos} {n : Nat} (I : Nat → Shared → Prop)
    (turn : ∀ n s, I n s → wpAny (model prog w) A (isTrue test env (eval test env)) (fun b s₂ => WhlIf b
        (wpAny (model prog w) A (execs body env) (fun f s₃ => match f with
            | .next | .cont => Again I n s₃
            | .brk => Q .next s₃
            | .ret v => Q (.ret v) s₃) (fun _ _ => False) s₂)
        (wpAny (model prog w) A (execs orelse env) Q (fun _ _ => False) s₂)) (fun _ _ => False) s)
    (h : I n s) : wpAny (model prog w) A (exec (.While test body orelse pos) env) Q E s := by
  refine wpAny_While (codeAny_whileLoop I (fun n s hI => ?_) n h)
  refine wpAny_mono (turn n s hI) (fun b s₂ h₂ => ?_) fun _ _ x => x.elim
  unfold WhlIf at h₂
  cases b with
  | false =>
    rw [if_neg Bool.false_ne_true] at h₂
    exact wpAny_mono h₂ (fun _ _ x => x) fun _ _ x => x.elim
  | true =>
    rw [if_pos rfl] at h₂
    refine wpAny_mono h₂ (fun f s₃ x => ?_) fun _ _ x => x.elim
    cases f <;> exact x
end
/-- the ledger with one object put anew -/
def put (a : Addr) (o : Obj) (news : List (Addr × Obj)) : List (Addr × Obj) := news.map fun p => if p.1 = a then (a, o) else p
theorem put_keys (a : Addr) (o : Obj) (news : List (Addr × Obj)) : (put a o news).map (·.1) = news.map (·.1) := by
  unfold put
  rw [List.map_map]
  refine List.map_congr_left fun p _ => ?_
  show (if p.1 = a then (a, o) else p).1 = p.1
  split
  · rename_i h; exact h.symm
  · rfl
theorem put_off {a : Addr} {o : Obj} : ∀ {news : List (Addr × Obj)}, (∀ p ∈ news, p.1 ≠ a) → put a o news = news
  | [], _ => rfl
  | p :: r, h => by
    show (if p.1 = a then (a, o) else p) :: put a o r = p :: r
    rw [if_neg (h p (.head _)), put_off fun q hq => h q (.tail _ hq)]
theorem put_other {a : Addr} {o : Obj} {news : List (Addr × Obj)} {p : Addr × Obj} (hp : p ∈ news) (h : p.1 ≠ a) : p ∈ put a o news :=
  List.mem_map.mpr ⟨p, hp, if_neg h⟩
theorem put_self {a : Addr} {o o' : Obj} {news : List (Addr × Obj)} (hp : (a, o) ∈ news) : (a, o') ∈ put a o' news :=
  List.mem_map.mpr ⟨_, hp, if_pos rfl⟩
theorem upd_put {a : Addr} {o o' : Obj} : ∀ {news : List (Addr × Obj)}, (news.map (·.1)).Nodup → (a, o) ∈ news → Upd a o o' news (put a o' news)
  | [], _, h => nomatch h
  | p :: r, nd, h => by
    rw [List.map_cons, List.nodup_cons] at nd
    have off : p.1 = a → ∀ q ∈ r, q.1 ≠ a := fun e q hq z => nd.1 (by rw [e, ← z]; exact List.mem_map_of_mem hq)
    show Upd a o o' (p :: r) ((if p.1 = a then (a, o') else p) :: put a o' r)
    rcases List.mem_cons.mp h with e | hr
    · subst e
      rw [if_pos rfl, put_off (off rfl)]
      exact .head (off rfl)
    · have ne : p.1 ≠ a := fun z => off z _ hr rfl
      rw [if_neg ne]
      exact .tail ne (upd_put nd.2 hr)
end
local macro_rules | `(tactic| walk_at "my cases") => `(tactic| ((case kA => exact rfl); (case kF => exact rfl); (case kK => assumption); (case k1 => k_asm); (case k2 => k_asm); (case k3 => k_asm); (case k4 => k_asm); (case k5 => k_asm); (case k6 => k_is); (case hp => (conv => lhs; whnf)); (case hb => (conv => lhs; whnf)); (case hsc => (conv => lhs; whnf)); (case k7 => k_is); (case k8 => ktr_room); (try (case k9 => first | exact bindsTo_peek (Frag.In.keeps (by assumption) (Fr.keep (by assumption))) (fun _ => by kernel_rfl) | exact BindsTo.of_eq rfl)); (case c5 => decide); (case kB => exact locs rfl); (case c2 => exact rfl); (case c3 => exact rfl); (case c4 => exact rfl); k_whole))
section
open PySem.Builtin.Re
/-! the pattern's search, over the law's signs -/
def okC (c : Nat) : Bool := [37, 43, 45, 47, 48, 58, 64, 90, 95, 97, 10, 32, 33, 39, 40, 59, 126, 233].contains c
def bareC (c : Nat) : Bool := [37, 43, 45, 47, 48, 58, 64, 90, 95, 97].contains c
theorem okC_cases {c : Nat} (h : okC c = true) : c = 37 ∨ c = 43 ∨ c = 45 ∨ c = 47 ∨ c = 48 ∨ c = 58 ∨ c = 64 ∨ c = 90 ∨ c = 95 ∨ c = 97 ∨ c = 10 ∨ c = 32 ∨ c = 33 ∨ c = 39 ∨ c = 40 ∨ c = 59 ∨ c = 126 ∨ c = 233 := by
  simpa [okC] using h
def codeA : Array Nat := #[14, 17, 4, 1, 1, 21, 9, 0, 604043296, 1, 0, 0, 0, 0, 0, 8, 4, 0, 13, 14, 21, 9, 0, 604043296, 1, 0, 0, 0, 0, 0, 8, 4, 0, 1]
theorem inSet_ok {c : Nat} (h : okC c = true) (seen : Sre.Seen) : (∃ seen', Sre.inSet codeA c codeA.size 5 true seen = .ok (!bareC c, seen')) ∧ ∃ seen', Sre.inSet codeA c codeA.size 20 true seen = .ok (!bareC c, seen') := by
  rcases okC_cases h with rfl | rfl | rfl | rfl | rfl | rfl | rfl | rfl | rfl | rfl | rfl | rfl | rfl | rfl | rfl | rfl | rfl | rfl <;> exact ⟨⟨_, rfl⟩, ⟨_, rfl⟩⟩
theorem admitted_ok (m : Sre.M) (hc : m.code = codeA) (hok : ∀ i, i < m.lim → okC (m.text.getD i 0) = true) : ∀ (fuel s : Nat) (seen : Sre.Seen), s + fuel = m.lim + 1 →
    ∃ r seen', Sre.M.admitted m fuel s seen = .ok (r, seen') ∧ match r with
      | none => ∀ i, s ≤ i → i < m.lim → bareC (m.text.getD i 0) = true
      | some i => i < m.lim ∧ bareC (m.text.getD i 0) = false
  | 0, s, seen, e => ⟨none, seen, rfl, fun i h1 h2 => by omega⟩
  | fuel + 1, s, seen, e => by
    unfold Sre.M.admitted
    by_cases hs : s ≥ m.lim
    · rw [if_pos hs]
      exact ⟨none, seen, rfl, fun i h1 h2 => by omega⟩
    · rw [if_neg hs]
      obtain ⟨seen', e1⟩ := (inSet_ok (hok s (by omega)) seen).1
      rw [hc, e1]
      cases hb : bareC (m.text.getD s 0) with
      | false => exact ⟨some s, seen', rfl, by omega, hb⟩
      | true =>
        obtain ⟨r, seen'', e2, h2⟩ := admitted_ok m hc hok fuel (s + 1) seen' (by omega)
        refine ⟨r, seen'', e2, ?_⟩
        cases r with
        | none =>
          intro i h3 h4
          by_cases h5 : i = s
          · subst h5; exact hb
          · exact h2 i (by omega) h4
        | some i => exact h2
def m0 (text : Array Nat) (lim : Nat) : Sre.M := { code := codeA, text, lim, start := 0, lastStart := lim, pc := 18, pos := 0, handed := 0, marks := #[], seen := ({} : Sre.Seen).add 14 }
theorem forSearch_eq {text : Array Nat} {lim : Nat} (h : 1 ≤ lim) : Sre.forSearch codeA text 0 0 lim false = (m0 text lim).attemptFrom 0 true := by
  have e : (decide (0 > lim) || decide (lim - 0 < 1)) = false := by simp; omega
  have z : Sre.forSearch codeA text 0 0 lim false = (if (decide (0 > lim) || decide (lim - 0 < 1)) = true then _ else (m0 text lim).attemptFrom 0 true) := rfl
  rw [z, e]; rfl
/-- the search's answer -/
theorem search_m {text : Array Nat} {lim : Nat} (h : 1 ≤ lim) (hok : ∀ i, i < lim → okC (text.getD i 0) = true) :
    ((∀ i, i < lim → bareC (text.getD i 0) = true) ∧ ∃ m', ((m0 text lim).attemptFrom 0 true).runFor 4 = m' ∧ m'.outcome = some .failed) ∨
    ((∃ i, i < lim ∧ bareC (text.getD i 0) = false) ∧ ∃ m', ((m0 text lim).attemptFrom 0 true).runFor 4 = m' ∧ m'.outcome = some .matched) := by
  obtain ⟨r, seen', e, hr⟩ := admitted_ok (m0 text lim) rfl hok (lim + 1 - 0) 0 (m0 text lim).seen (by show 0 + (lim + 1 - 0) = lim + 1; omega)
  have hf : (m0 text lim).attemptFrom 0 true = (match Sre.M.admitted (m0 text lim) (lim + 1 - 0) 0 (m0 text lim).seen with
    | .ok (some s, seen) => { m0 text lim with mustAdvance := false, seen }.attemptAt s true
    | .ok (none, seen) => { m0 text lim with seen }.say false
    | .error why => (m0 text lim).stick why) := rfl
  rw [hf, e]
  cases r with
  | none => exact .inl ⟨fun i hi => hr i (Nat.zero_le _) hi, _, rfl, rfl⟩
  | some i =>
    refine .inr ⟨⟨i, hr.1, hr.2⟩, _, rfl, ?_⟩
    have hl : ¬ i ≥ lim := by have : i < lim := hr.1; omega
    obtain ⟨seen2, e2⟩ := (inSet_ok (hok i hr.1) (seen'.add 13)).2
    rw [show bareC (text.getD i 0) = false from hr.2] at e2
    have s1 : ∀ n, Sre.M.runFor (n + 1) ({ m0 text lim with mustAdvance := false, seen := seen' }.attemptAt i true) = Sre.M.runFor n (if i ≥ lim then _ else (match Sre.inSet codeA (text.getD i 0) codeA.size 20 true (seen'.add 13) with
      | .error why => _
      | .ok (false, seen) => _
      | .ok (true, seen) => ({ m0 text lim with mustAdvance := false, start := i, frames := [{ wait := .nextStart, pc := 18, pos := i, outermost := true }], weight := 1, handed := i, seen := seen, pc := 33, pos := i + 1 } : Sre.M))) := fun n => rfl
    show (Sre.M.runFor (3 + 1) _).outcome = _
    rw [s1, if_neg hl, e2]
    rfl
abbrev stg (w : World) : Setting := ⟨PySem.Challenge.rw_mr0367_01.prog, w.params⟩
theorem peek_find (w : World) (x : Str) (t : Tok) : peek (K w.params) (stg w) (callAny (.ref 788) ⟨[.str x t], []⟩) = some (.again (.builtin "re.Pattern.search" ⟨[.ref 85, .str x t], []⟩)) := by
  rw [PySem.W.Fast.te2956504954644400088]
  kernel_rfl
abbrev tgt (x : Str) (t : Tok) : ReTarget := { pattern := .ref 85, string := .str x t, code := codeA, text := x.cps, kind := 0, groups := 0, pos := min (0 : Int).toNat x.cps.size, lim := min (2 ^ 63 - 1 : Int).toNat x.cps.size }
theorem peek_target (w : World) (x : Str) (t : Tok) : peek (K w.params) (stg w) (reTarget "re.Pattern.search" "search" ⟨[.ref 85, .str x t], []⟩) = some (tgt x t) := by
  rw [PySem.W.Fast.te15674613487505817675]
  kernel_rfl
section
variable {w : World} {A : Around} {E : Value → Shared → Prop} {s : Shared} {Q : Value → Shared → Prop} {h₀ : Heap} {L : Addr} {m : Str → Option Value} {news : List (Addr × Obj)}
theorem looks_rules {M : Model} {h : Heap} (c : Nat → Bool) (f : Nat → String) : ∀ l : List Nat, Looks M h (forIn l PUnit.unit fun i (_ : PUnit) => (if c i = true then do rule (f i); pure (ForInStep.yield PUnit.unit) else pure (ForInStep.yield PUnit.unit) : Sem (ForInStep PUnit))) PUnit.unit
  | [] => Looks.now
  | i :: l => by
    rw [List.forIn_cons]
    refine Looks.andThen (a := ForInStep.yield PUnit.unit) ?_ (looks_rules c f l)
    split
    · exact Looks.tag Looks.now
    · exact Looks.now
theorem looks_end {M : Model} {h : Heap} {mm m' : Sre.M} (e : mm.runFor 4 = m') : (m'.outcome = some .failed → Looks M h (reRunToEnd mm) none) ∧ (m'.outcome = some .matched → Looks M h (reRunToEnd mm) (some m')) := by
  have d : m'.outcome.isSome = true → reDrive (2 ^ 64) mm = pure m' := fun hs => by
    show reDrive (18446744073709551615 + 1) mm = _
    unfold reDrive
    show (if (mm.runFor 4).outcome.isSome = true then pure (mm.runFor 4) else _) = _
    rw [e, if_pos hs]
  constructor
  · intro ho
    unfold reRunToEnd
    refine Looks.andThen (Looks.of_pure (d (by rw [ho]; rfl))) ?_
    refine Looks.andThen (looks_rules _ _ _) ?_
    rw [ho]
    exact Looks.now
  · intro ho
    unfold reRunToEnd
    refine Looks.andThen (Looks.of_pure (d (by rw [ho]; rfl))) ?_
    refine Looks.andThen (looks_rules _ _ _) ?_
    rw [ho]
    exact Looks.now
theorem codeAny_bi {id : String} {args : Args} {b : Builtin} {R : Result → Shared → Prop} (hb : entryFor table id = some b)
    (h : wpAny (model PySem.Challenge.rw_mr0367_01.prog w) (A.under (.builtin id args)) (b args) (fun fin s' => match fin with | .done f => R (.ok f) s' | .again c' => c'.quiet = true ∧ codeAny (model PySem.Challenge.rw_mr0367_01.prog w) A c' R s') (fun e s' => R (.error e) s') s) :
    codeAny (model PySem.Challenge.rw_mr0367_01.prog w) A (.builtin id args) R s := by
  refine codeAny_of_tree ?_
  show wpAny _ _ (match entryFor table id with | some b => b args | none => unsupported ((withoutEnding? id "#data").getD id)) _ _ s
  rw [hb]; exact h
theorem find_wp (X : (K w.params).In h₀) (F : Fr h₀ L s.heap m) (N : News h₀ L s.heap news) {x : Str} {t : Tok} (hne : 1 ≤ x.cps.size) (hlen : x.cps.size < 2 ^ 62) (hok : ∀ i, i < x.cps.size → okC (x.cps.getD i 0) = true)
    (h1 : (∀ i, i < x.cps.size → bareC (x.cps.getD i 0) = true) → Q .none s)
    (h2 : (∃ i, i < x.cps.size ∧ bareC (x.cps.getD i 0) = false) → ∀ a h', Fr h₀ L h' m → News h₀ L h' news → Q (.ref a) { s with heap := h' }) :
    wpAny (model PySem.Challenge.rw_mr0367_01.prog w) A (call (.ref 788) [.str x t]) Q E s := by
  have XS := X.keeps F.keep
  refine wpAny_call (codeAny_of_tree ?_)
  refine (Looks.of_peek (M := model PySem.Challenge.rw_mr0367_01.prog w) XS (peek_find w x t)).here ⟨by kernel_rfl, codeAny_bi (entryFor_of_fast (id := "re.Pattern.search") (b := Builtin.«re.Pattern.search») (by kernel_rfl)) ?_⟩
  show wpAny _ _ (reTarget _ _ _ >>= fun t => reAnswer t _) _ _ s
  refine wpAny_bind ((Looks.of_peek (M := model PySem.Challenge.rw_mr0367_01.prog w) XS (peek_target w x t)).here ?_)
  have e1 : min (0 : Int).toNat x.cps.size = 0 := by simp
  have e2 : min (2 ^ 63 - 1 : Int).toNat x.cps.size = x.cps.size := Nat.min_eq_right (by omega)
  show wpAny _ _ (reAnswer (tgt x t) (Sre.forSearch codeA x.cps 0 (min (0 : Int).toNat x.cps.size) (min (2 ^ 63 - 1 : Int).toNat x.cps.size) false)) _ _ s
  rw [e1, e2, forSearch_eq hne]
  show wpAny _ _ (reRunToEnd _ >>= fun r => match r with | some m => (do ret (← reNewMatch _ _ _ _ _ m)) | none => ret .none) _ _ s
  rcases search_m hne hok with ⟨hb, m', em, ho⟩ | ⟨hb, m', em, ho⟩
  · refine wpAny_bind (((looks_end em).1 ho).here ?_)
    exact wpAny_pure (h1 hb)
  · refine wpAny_bind (((looks_end em).2 ho).here ?_)
    refine wpAny_bind ?_
    show wpAny _ _ (newTuple _ >>= fun v => newFields "re.Match" [_, _, _, _, _, v]) _ _ s
    refine wpAny_bind (newTuple_N F N (fun h' F' N' => ?_) (by show 2 ≤ sizeLine; decide))
    refine wpAny_newObj_type ?_ (by show 6 ≤ sizeLine + 2; decide)
    exact wpAny_pure (h2 hb _ _ (F'.push _) (fun p hp => (N'.push F' _) p (.tail _ (.tail _ hp))))
end
end
section
local macro_rules | `(tactic| walk_at "my enter") => `(tactic| (refine' enter ?hp ?hb ?hsc ?k1 ?k2 ?k3 ?k4 ?k5 ?kA ?kF ?kK ?k6 ?k7 ?k8 ?k9 ?kB ?_ ?c2 ?c3 ?c4 ?c5; (case kA => exact rfl); (case kF => exact rfl); (case kK => assumption); (case k1 => k_asm); (case k2 => k_asm); (case k3 => k_asm); (case k4 => k_asm); (case k5 => k_asm); (case k6 => k_is); (case hp => (conv => lhs; whnf)); (case hb => (conv => lhs; whnf)); (case hsc => (conv => lhs; whnf)); (case k7 => k_is); (case k8 => ktr_room); (case k9 => exact BindsTo.of_eq rfl); (case c5 => decide); (case kB => exact locs rfl); (case c2 => exact rfl); (case c3 => exact rfl); (case c4 => exact rfl); k_whole; intro g' L' h' FG' F' N' B' X' T'; (try dsimp only); (try k_lift B'); (try k_fold)))
theorem callWith_788 {w : World} {A : Around} {E : Value → Shared → Prop} {s : Shared} {env : Env} {pos : Pos} {first : List Value} {Q : Value → Shared → Prop} {e : Expr} {rest : List Expr} {h₀ : Heap} (_X : (K w.params).In h₀)
    (h : wpAny (model PySem.Challenge.rw_mr0367_01.prog w) A (spliced (backTo pos (starEach (e :: rest) env))) (fun vs s₁ => (K w.params).In s₁.heap ∧ wpAny (model PySem.Challenge.rw_mr0367_01.prog w) A (call (.ref 788) (first ++ vs)) Q E s₁) E s)
    (he : starEach (e :: rest) env = (false, eval e env) :: starEach rest env := by rfl) (hplain : (backTo pos (starEach rest env)).any (·.1) = false := by rfl) :
    wpAny (model PySem.Challenge.rw_mr0367_01.prog w) A (callWith pos (.ref 788) first (backTo pos (starEach (e :: rest) env)) []) Q E s := by
  rw [he] at h ⊢
  exact callWith_of (P := fun h => (K w.params).In h) (by show ((false || (backTo pos (starEach rest env)).any (·.1)) || false) = false; rw [hplain]; rfl) (fun h X => ⟨.machine, .inr (.inl rfl), Looks.of_peek X (by kernel_rfl)⟩) (evalArgs_plain h)
local macro_rules | `(tactic| walk_at "callWith ref") => `(tactic| (k_here; k_dflt (refine' callWith_788 ?k1 ?_; (case k1 => k_asm); k_whole)))
local macro_rules | `(tactic| walk_at "call ref") => `(tactic| (k_here; k_dflt (refine' find_wp ?k1 ?k2 ?k3 ?k4 ?k5 ?k6 ?_ ?_; (case k1 => k_asm); (case k2 => k_asm); (case k3 => k_asm); (case k4 => (show 1 ≤ PySem.Str.length _); omega); (case k5 => (show PySem.Str.length _ < _); omega); (case k6 => assumption); k_whole); (first | (intro hbare; (try dsimp only)) | skip)))
def repL (l : List Nat) : List Nat := l.flatMap fun c => if c = 39 then [39, 34, 39, 34, 39] else [c]
def quoteL (l : List Nat) : List Nat := if l = [] then [39, 39] else if l.all bareC then l else 39 :: (repL l ++ [39])
def quoteF (x : Str) : Str := ⟨(quoteL x.cps.toList).toArray⟩
def okS (x : Str) : Prop := ∀ i, i < x.cps.size → okC (x.cps.getD i 0) = true
theorem repL_append (a b : List Nat) : repL (a ++ b) = repL a ++ repL b := by simp [repL]
theorem repL_free : ∀ {a : List Nat}, 39 ∉ a → repL a = a
  | [], _ => rfl
  | c :: r, h => by
    have h1 : ¬ c = 39 := fun e => h (by rw [e]; exact .head _)
    have h2 := repL_free (a := r) fun q => h (.tail _ q)
    show (if c = 39 then [39, 34, 39, 34, 39] else [c]) ++ repL r = c :: r
    rw [if_neg h1, h2]; rfl
theorem rep_join : ∀ (parts : List Str), (∀ p ∈ parts, 39 ∉ p.cps.toList) → repL (Str.join ⟨#[39]⟩ parts).cps.toList = (Str.join ⟨#[39, 34, 39, 34, 39]⟩ parts).cps.toList
  | [], _ => rfl
  | [x], h => repL_free (h x (.head _))
  | x :: y :: r, h => by
    have ih := rep_join (y :: r) fun p hp => h p (.tail _ hp)
    show repL ((x.cps ++ #[39]) ++ (Str.join ⟨#[39]⟩ (y :: r)).cps).toList = ((x.cps ++ #[39, 34, 39, 34, 39]) ++ (Str.join ⟨#[39, 34, 39, 34, 39]⟩ (y :: r)).cps).toList
    simp only [Array.toList_append, repL_append]
    rw [ih, repL_free (h x (.head _))]
    rfl
theorem replace_rep (x : Str) : Txt.replace x (Str.ofString "'") (Str.ofString "'\"'\"'") = ⟨(repL x.cps.toList).toArray⟩ := by
  rw [show Str.ofString "'" = ⟨#[39]⟩ from by decide +kernel, show Str.ofString "'\"'\"'" = ⟨#[39, 34, 39, 34, 39]⟩ from by decide +kernel, StrLaws.replace_one]
  have h := rep_join (Txt.split x ⟨#[39]⟩) (StrLaws.split_free x 39)
  rw [StrLaws.join_split] at h
  apply Str.ext'
  rw [h]
theorem repL_length : ∀ l : List Nat, (repL l).length ≤ 5 * l.length
  | [] => Nat.le_refl _
  | c :: r => by
    have ih := repL_length r
    show ((if c = 39 then [39, 34, 39, 34, 39] else [c]) ++ repL r).length ≤ _
    rw [List.length_append, List.length_cons]
    split <;> simp <;> omega
theorem quoteF_empty {x : Str} (h : (x.length : Int) = 0) : Str.ofString "''" = quoteF x := by
  have : x.cps.toList = [] := by
    apply List.eq_nil_of_length_eq_zero
    have : x.cps.size = 0 := by have : (x.cps.size : Int) = 0 := h; omega
    simpa using this
  unfold quoteF quoteL
  rw [if_pos this]
  decide +kernel
theorem ne_nil_of_len {x : Str} (h : (x.length : Int) ≠ 0) : x.cps.toList ≠ [] := fun e => h (by
  have : x.cps.size = 0 := by rw [← Array.length_toList, e]; rfl
  show (x.cps.size : Int) = 0
  omega)
theorem all_of_getD {x : Str} : (x.cps.toList.all bareC = true) ↔ ∀ i, i < x.cps.size → bareC (x.cps.getD i 0) = true := by
  rw [List.all_eq_true]
  constructor
  · intro h i hi
    have : x.cps.getD i 0 ∈ x.cps.toList := by
      rw [Array.getD_eq_getD_getElem?, Array.getElem?_eq_getElem hi]
      exact Array.mem_toList_iff.mpr (Array.getElem_mem hi)
    exact h _ this
  · intro h c hc
    obtain ⟨i, hi, rfl⟩ := List.getElem_of_mem hc
    have hi' : i < x.cps.size := by simpa using hi
    have := h i hi'
    rw [Array.getD_eq_getD_getElem?, Array.getElem?_eq_getElem hi'] at this
    simpa using this
theorem quoteF_bare {x : Str} (h : (x.length : Int) ≠ 0) (hb : ∀ i, i < x.cps.size → bareC (x.cps.getD i 0) = true) : x = quoteF x := by
  unfold quoteF quoteL
  rw [if_neg (ne_nil_of_len h), if_pos (all_of_getD.mpr hb)]
theorem quoteF_rep {x : Str} (h : (x.length : Int) ≠ 0) (hb : ∃ i, i < x.cps.size ∧ bareC (x.cps.getD i 0) = false) :
    Str.ofString "'" ++ Txt.replace x (Str.ofString "'") (Str.ofString "'\"'\"'") ++ Str.ofString "'" = quoteF x := by
  have hn : ¬ x.cps.toList.all bareC = true := fun q => by
    obtain ⟨i, hi, e⟩ := hb
    rw [all_of_getD.mp q i hi] at e
    cases e
  unfold quoteF quoteL
  rw [if_neg (ne_nil_of_len h), if_neg hn, replace_rep, show Str.ofString "'" = ⟨#[39]⟩ from by decide +kernel]
  apply Str.ext'
  show #[39] ++ (repL x.cps.toList).toArray ++ #[39] = _
  simp
theorem replace_len {x : Str} (h : x.length ≤ 1000) : (Txt.replace x (Str.ofString "'") (Str.ofString "'\"'\"'")).length ≤ 5000 := by
  rw [replace_rep]
  show (repL x.cps.toList).toArray.size ≤ 5000
  have := repL_length x.cps.toList
  have : x.cps.toList.length = x.length := by simp [Str.length]
  simp only [List.size_toArray]
  omega
theorem apos_len : (Str.ofString "'").length ≤ 5001 := by decide +kernel
theorem apos_len2 {y : Str} (h : y.length ≤ 5000) : (Str.ofString "'" ++ y).length ≤ 5001 := by
  rw [Str.length_append]
  have : (Str.ofString "'").length = 1 := by decide +kernel
  omega
local macro_rules | `(tactic| walk_at "binaryOp Add str str") => `(tactic| (refine' PySem.W.KXadd.add (K := 5001) (L := 5001) ?a ?b ?c ?_; (case a => (first | exact apos_len | exact apos_len2 (replace_len (by assumption)))); (case b => (first | exact apos_len | exact Nat.le_succ_of_le (replace_len (by assumption)))); (case c => decide); intro t9 k9 l9; clear l9))
theorem quote_ok (w : World) (x : Str) (t : Tok) (hok : okS x) (hlen : x.length ≤ 1000) : Gives w 795 [.str x t] (fun t' => .str (quoteF x) t') 1 8 := by
  unfold Gives
  k_fill
  intros
  rename_i hret
  refine wpAny_call ?_
  k_dflt (walk_at "my enter")
  k_steps
  all_goals (refine cb_retS (x := quoteF x) hret ?_ (by k_asm) (by k_asm))
  all_goals first | exact quoteF_empty (by assumption) | exact quoteF_bare (by assumption) (by assumption) | exact quoteF_rep (by assumption) (by assumption)
end
section
/-- a word with its turn -/
structure Cell where
  adr : Addr
  w : Str
  tw : Tok
  k : Int
  tk : Tok
def Cell.obj (c : Cell) : Obj := { cls := .type "list", data := .seq #[.str c.w c.tw, .int c.k c.tk] 0 }
abbrev Cell.val (c : Cell) : Value := .ref c.adr
def Cell.Ok (c : Cell) : Prop := okS c.w ∧ c.w.length ≤ 1000
def written (x : Str) : Tok → Value := fun t => .str (quoteF x) t
section
variable {w : World} {A : Around} {E : Value → Shared → Prop} {s : Shared} {Q : Value → Shared → Prop} {h₀ : Heap} {L : Addr} {m : Str → Option Value} {news : List (Addr × Obj)}
theorem item0 {value slice : Expr} {a : Addr} {o : Obj} {v1 v2 : Value} {u : Tok} (N : News h₀ L s.heap news) (hm : (a, o) ∈ news) (ho : o = { cls := .type "list", data := .seq #[v1, v2] 0 }) (h : Q v1 s)
    (hs : subscripted slice false (.ref a) (.int 0 u) = operate [.ref a, .int 0 u] (getItem (.ref a) (.int 0 u)) := by with_unfolding_all rfl) :
    wpAny (model PySem.Challenge.rw_mr0367_01.prog w) A (subscriptTail value slice (.ref a) (.int 0 u)) Q E s := by
  subst ho
  have hl : s.heap.IsList a #[v1, v2] := ⟨_, (N _ hm).1, rfl, _, rfl⟩
  exact tail_any hl.typeIs slot_list_getitem.lookup (wpAny_getItem_list hl (by decide) (by decide) rfl h) hs
end
/-- quote under a premise of the ledger -/
def GivesIf (w : World) (f : Addr) (vs : List Value) (kw : List (Str × Value)) (P : List (Addr × Obj) → Prop) (R : Tok → Value) (d u : Nat) : Prop :=
  ∀ (p : Program) (loose : List Str) (mean : ExcName → Option Value) (mg mb : Str → Option Value) (news : List (Addr × Obj)) (dp un : Nat) (gd : Option (List Code)) (cn : Str) (cs : Scope) (a : Addr) (ccd : Value) (cl : List (Str × Addr)) (outer : List Env) (A₀ : Around) (base h₀ : Heap) (L : Addr) (m : Str → Option Value) (s : Shared) (Q E : Value → Shared → Prop),
    Below A₀ base outer h₀ → Fr h₀ L s.heap m → (K w.params).In h₀ → News h₀ L s.heap news → Top p loose mean mg mb h₀ → cs.kind = .function → dp + d < recursionLimit → un + u < cLine → P news →
    (∀ t h' tk', Fr h₀ L h' m → News h₀ L h' news → Q (R t) { s with heap := h', toks := tk' }) →
    wpAny (model PySem.Challenge.rw_mr0367_01.prog w) (ktrTop dp un gd cn cs L a ccd cl outer) (call (.ref f) vs kw) Q E s
theorem Gives.use {w : World} {f : Addr} {vs : List Value} {R : Tok → Value} {d u : Nat} (G : Gives w f vs R d u) {p : Program} {loose : List Str} {mean : ExcName → Option Value} {mg mb : Str → Option Value} {news : List (Addr × Obj)} {dp un : Nat} {gd : Option (List Code)} {cn : Str} {cs : Scope} {a : Addr} {ccd : Value} {cl : List (Str × Addr)} {outer : List Env} {A₀ : Around} {base h₀ : Heap} {L : Addr} {m : Str → Option Value} {s : Shared} {Q E : Value → Shared → Prop}
    (B : Below A₀ base outer h₀) (F : Fr h₀ L s.heap m) (X : (K w.params).In h₀) (N : News h₀ L s.heap news) (T : Top p loose mean mg mb h₀) (hk : cs.kind = .function) (hd : dp + d < recursionLimit) (hu : un + u < cLine)
    (ret : ∀ t h' tk', Fr h₀ L h' m → News h₀ L h' news → Q (R t) { s with heap := h', toks := tk' }) :
    wpAny (model PySem.Challenge.rw_mr0367_01.prog w) (ktrTop dp un gd cn cs L a ccd cl outer) (call (.ref f) vs) Q E s :=
  G _ _ _ _ _ _ _ _ _ _ _ _ _ _ _ _ _ _ _ _ _ _ _ B F X N T hk hd hu ret
local macro_rules | `(tactic| walk_at "subscriptTail") => `(tactic| (k_here; (with_reducible show wpAny _ _ (subscriptTail _ _ (Value.ref _) (Value.int 0 _)) _ _ _); k_dflt (refine' item0 ?k1 ?k2 ?k3 ?_; (case k1 => k_asm); (case k2 => assumption); (case k3 => exact rfl); k_whole)))
local macro_rules | `(tactic| walk_at "call ref") => `(tactic| (k_here; (with_reducible show wpAny _ _ (call (Value.ref 795) _) _ _ _); k_dflt (refine' Gives.use (quote_ok _ _ _ ?q1 ?q2) ?k1 ?k2 ?k3 ?k4 ?k5 ?kK ?kd ?ku ?_; (case q1 => assumption); (case q2 => assumption); (case k1 => k_asm); (case k2 => k_asm); (case k3 => k_asm); (case k4 => k_asm); (case k5 => k_asm); (case kK => first | exact rfl | assumption); (case kd => ktr_room); (case ku => ktr_units); k_whole; intro t9 h9 tk9 F9 N9; (try dsimp only); (try k_fold))))
theorem written_ok (w : World) (c : Cell) (hc : c.Ok) : GivesIf w 809 [c.val] [] (fun news => (c.adr, c.obj) ∈ news) (written c.w) 2 16 := by
  unfold GivesIf
  k_fill
  intros
  rename_i hm hret
  obtain ⟨hc1, hc2⟩ := hc
  refine wpAny_call ?_
  k_dflt (refine' enter (binds := [(S "item", c.val)]) ?hp ?hb ?hsc ?k1 ?k2 ?k3 ?k4 ?k5 ?kA ?kF ?kK ?k6 ?k7 ?k8 ?k9 ?kB ?_ ?c2 ?c3 ?c4 ?c5; walk_at "my cases"; intro g' L' h' FG' F' N' B' X' T'; (try dsimp only); (try k_lift B'); (try k_fold))
  k_steps
  all_goals exact hret _ _ _ (by k_asm) (by k_asm)
abbrev rowObj (cs : List Cell) (n : Nat) : Obj := { cls := .type "list", data := .seq (cs.map Cell.val).toArray n }
structure RowAt (ar : Addr) (cs : List Cell) (n : Nat) (news : List (Addr × Obj)) : Prop where
  row : (ar, rowObj cs n) ∈ news
  cells : ∀ c ∈ cs, (c.adr, c.obj) ∈ news
  ok : ∀ c ∈ cs, c.Ok
  short : cs.length ≤ 100
def bis (p : Nat → Bool) : Nat → Nat → Nat → Nat
  | 0, lo, _ => lo
  | f + 1, lo, hi => if lo < hi then (if p ((lo + hi) / 2) then bis p f ((lo + hi) / 2 + 1) hi else bis p f lo ((lo + hi) / 2)) else lo
def keyAt (cs : List Cell) (i : Nat) : List Nat := match cs[i]? with
  | some c => quoteL c.w.cps.toList
  | none => []
def rightAt (cs : List Cell) (x : Str) (i : Nat) : Bool := !decide (x.cps.toList < keyAt cs i)
def leftAt (cs : List Cell) (x : Str) (i : Nat) : Bool := decide (keyAt cs i < x.cps.toList)
section
variable {w : World} {A : Around} {E : Value → Shared → Prop} {s : Shared} {Q : Value → Shared → Prop} {h₀ : Heap} {L : Addr} {m : Str → Option Value} {news : List (Addr × Obj)} {ar : Addr} {cs : List Cell} {n : Nat}
theorem row_list (N : News h₀ L s.heap news) (R : RowAt ar cs n news) : s.heap.IsList ar (cs.map Cell.val).toArray := ⟨_, (N _ R.row).1, rfl, _, rfl⟩
theorem len_row (N : News h₀ L s.heap news) (R : RowAt ar cs n news) (h : Q (.int (cs.length : Nat) (s.toks + 1)) { s with toks := s.toks + 1 + 1 }) :
    wpAny (model PySem.Challenge.rw_mr0367_01.prog w) A (call (.builtin "len") [.ref ar]) Q E s := by
  have e : ((cs.map Cell.val).toArray.size : Int) = (cs.length : Nat) := by simp
  have := R.short
  exact call_len_list (row_list N R) (by rw [e]; omega) (by rw [e]; exact h)
theorem item_row {value slice : Expr} {k : Int} {u : Tok} (N : News h₀ L s.heap news) (R : RowAt ar cs n news) (h0 : 0 ≤ k) (h1 : k < cs.length) (h : ∀ c, cs[k.toNat]? = some c → c ∈ cs → Q (.ref c.adr) s)
    (hs : subscripted slice false (.ref ar) (.int k u) = operate [.ref ar, .int k u] (getItem (.ref ar) (.int k u)) := by with_unfolding_all rfl) :
    wpAny (model PySem.Challenge.rw_mr0367_01.prog w) A (subscriptTail value slice (.ref ar) (.int k u)) Q E s := by
  have hl := row_list N R
  have hk : k.toNat < cs.length := by omega
  have := R.short
  refine tail_any hl.typeIs slot_list_getitem.lookup (wpAny_getItem_list hl h0 (by omega) (x := .ref (cs[k.toNat]).adr) ?_ (h _ (List.getElem?_eq_getElem hk) (List.getElem_mem hk))) hs
  simp [hk]
end
local macro_rules | `(tactic| walk_at "call builtin:len") => `(tactic| (k_here; (with_reducible show wpAny _ _ (call (Value.builtin "len") [Value.ref _]) _ _ _); k_dflt (refine' len_row ?k1 ?k2 ?_; (case k1 => k_asm); (case k2 => assumption); k_whole)))
local macro_rules | `(tactic| walk_at "my steps") => `(tactic| repeat' ((fail_if_success (with_reducible show wpAny _ _ (exec (Stmt.While _ _ _ _) _) _ _ _)); (first | (k_unfold; (try dsimp only)) | (k_end; wrow_close) | walk1 | (dsimp only; walk1) | (leave1; walk_say "STEP leave1"; try dsimp only) | fail "no step")))
local macro_rules | `(tactic| walk_at "subscriptTail") => `(tactic| (k_here; (with_reducible show wpAny _ _ (subscriptTail _ _ (Value.ref _) (Value.int _ _)) _ _ _); k_dflt (refine' item_row ?k1 ?k2 ?k3 ?k4 ?_; (case k1 => k_asm); (case k2 => assumption); (case k3 => omega); (case k4 => omega); k_whole); intro c9 hc9 hi9; (try dsimp only)))
theorem GivesIf.use {w : World} {f : Addr} {vs : List Value} {kw : List (Str × Value)} {P : List (Addr × Obj) → Prop} {R : Tok → Value} {d u : Nat} (G : GivesIf w f vs kw P R d u) {p : Program} {loose : List Str} {mean : ExcName → Option Value} {mg mb : Str → Option Value} {news : List (Addr × Obj)} {dp un : Nat} {gd : Option (List Code)} {cn : Str} {cs : Scope} {a : Addr} {ccd : Value} {cl : List (Str × Addr)} {outer : List Env} {A₀ : Around} {base h₀ : Heap} {L : Addr} {m : Str → Option Value} {s : Shared} {Q E : Value → Shared → Prop}
    (B : Below A₀ base outer h₀) (F : Fr h₀ L s.heap m) (X : (K w.params).In h₀) (N : News h₀ L s.heap news) (T : Top p loose mean mg mb h₀) (hk : cs.kind = .function) (hd : dp + d < recursionLimit) (hu : un + u < cLine) (hP : P news)
    (ret : ∀ t h' tk', Fr h₀ L h' m → News h₀ L h' news → Q (R t) { s with heap := h', toks := tk' }) :
    wpAny (model PySem.Challenge.rw_mr0367_01.prog w) (ktrTop dp un gd cn cs L a ccd cl outer) (call (.ref f) vs kw) Q E s :=
  G _ _ _ _ _ _ _ _ _ _ _ _ _ _ _ _ _ _ _ _ _ _ _ B F X N T hk hd hu hP ret
local macro_rules | `(tactic| walk_at "call ref") => `(tactic| (k_here; (with_reducible show wpAny _ _ (call (Value.ref 809) _) _ _ _); k_dflt (refine' GivesIf.use (written_ok _ _ ?q1) ?k1 ?k2 ?k3 ?k4 ?k5 ?kK ?kd ?ku ?q2 ?_; (case q1 => exact RowAt.ok (by assumption) _ (by assumption)); (case k1 => k_asm); (case k2 => k_asm); (case k3 => k_asm); (case k4 => k_asm); (case k5 => k_asm); (case kK => first | exact rfl | assumption); (case kd => ktr_room); (case ku => ktr_units); (case q2 => exact RowAt.cells (by assumption) _ (by assumption)); k_whole; intro t9 h9 tk9 F9 N9; (try dsimp only [written]); (try k_fold))))
abbrev bisM (ar : Addr) (xv kv : Value) (lo hi : Int) (tl th : Tok) (mid : Option Value) (y : Str) : Option Value :=
  if y = S "lo" then some (.int lo tl) else if y = S "hi" then some (.int hi th) else if y = S "mid" then mid else if y = S "a" then some (.ref ar) else if y = S "x" then some xv else if y = S "key" then some kv else none
theorem bis_fr {h₀ h : Heap} {L : Addr} {m : Str → Option Value} {ar : Addr} {xv kv : Value} {lo hi : Int} {tl th : Tok} {mid : Option Value} (F : Fr h₀ L h m) (e1 : m (S "lo") = some (.int lo tl)) (e2 : m (S "hi") = some (.int hi th)) (e3 : m (S "mid") = mid)
    (e4 : m (S "a") = some (.ref ar)) (e5 : m (S "x") = some xv) (e6 : m (S "key") = some kv) (e7 : ∀ y, y ≠ S "lo" → y ≠ S "hi" → y ≠ S "mid" → y ≠ S "a" → y ≠ S "x" → y ≠ S "key" → m y = none) : Fr h₀ L h (bisM ar xv kv lo hi tl th mid) := by
  refine Fr.cast F fun y => ?_
  unfold bisM
  split
  · rename_i e; rw [e, e1]
  · split
    · rename_i e; rw [e, e2]
    · split
      · rename_i e; rw [e, e3]
      · split
        · rename_i e; rw [e, e4]
        · split
          · rename_i e; rw [e, e5]
          · split
            · rename_i e; rw [e, e6]
            · exact e7 y (by assumption) (by assumption) (by assumption) (by assumption) (by assumption) (by assumption)
theorem mid_of (lo hi : Nat) : Int.fdiv ((lo : Int) + hi) 2 = (((lo + hi) / 2 : Nat) : Int) := by
  rw [Int.fdiv_eq_ediv_of_nonneg _ (by decide)]; omega
theorem bis_stop {p : Nat → Bool} {f lo hi : Nat} (h : ¬ lo < hi) : bis p f lo hi = lo := by
  cases f with
  | zero => rfl
  | succ f => unfold bis; rw [if_neg h]
theorem bis_up {p : Nat → Bool} {f lo hi : Nat} (h : lo < hi) (hp : p ((lo + hi) / 2) = true) : bis p (f + 1) lo hi = bis p f ((lo + hi) / 2 + 1) hi := by
  rw [bis, if_pos h, hp, if_pos rfl]
theorem bis_down {p : Nat → Bool} {f lo hi : Nat} (h : lo < hi) (hp : p ((lo + hi) / 2) = false) : bis p (f + 1) lo hi = bis p f lo ((lo + hi) / 2) := by
  rw [bis, if_pos h, hp, if_neg Bool.false_ne_true]
theorem keyAt_of {cs : List Cell} {c : Cell} {lo hi : Nat} (h : cs[(Int.fdiv ((lo : Int) + hi) 2).toNat]? = some c) : keyAt cs ((lo + hi) / 2) = (quoteF c.w).cps.toList := by
  rw [mid_of, Int.toNat_natCast] at h
  unfold keyAt
  rw [h]
  simp [quoteF]
theorem up_is (lo hi : Nat) : (((lo + hi) / 2 + 1 : Nat) : Int) = Int.fdiv ((lo : Int) + hi) 2 + 1 := by rw [mid_of]; rfl
theorem bisL_gen (w : World) (ar : Addr) (cs : List Cell) (n : Nat) (x : Str) (t t0 : Tok) (vs : List Value) (hB : ∀ S1, peek (K w.params) S1 (bindArgs (fnS (st 7) (S "bisect_left") (S "bisect_left") (.ref 72) (.ref 73) .none (.str (S "cpy313.bisect") 331) none (.ref 79) .none) ⟨vs, [(S "key", .ref 809)]⟩) = some [(S "a", .ref ar), (S "x", .str x t), (S "lo", .int 0 t0), (S "hi", .none), (S "key", .ref 809)]) :
    GivesIf w 80 vs [(S "key", .ref 809)] (RowAt ar cs n) (fun t => .int (bis (leftAt cs x) cs.length 0 cs.length : Nat) t) 4 40 := by
  unfold GivesIf
  k_fill
  intro p loose mean mg mb news dp un gd cn sc a ccd cl outer A₀ base h₀ L m s Q E B F X N T hk hd hu hm hret
  refine wpAny_call ?_
  k_dflt (refine' enter (binds := [(S "a", .ref ar), (S "x", .str x t), (S "lo", .int 0 t0), (S "hi", .none), (S "key", .ref 809)]) ?hp ?hb ?hsc ?k1 ?k2 ?k3 ?k4 ?k5 ?kA ?kF ?kK ?k6 ?k7 ?k8 ?k9 ?kB ?_ ?c2 ?c3 ?c4 ?c5; (case k9 => exact bindsTo_peek (X.keeps F.keep) hB); walk_at "my cases"; intro g L1 h1 FG F1 N1 B1 X1 T1; (try dsimp only); (try k_lift B1); (try k_fold))
  walk_at "my steps"
  rename Fr g L1 _ _ => F2
  rename News g L1 _ _ => N2
  refine whl_by (n := cs.length) (fun f s₁ => ∃ (lo hi : Nat) (tl th : Tok) (mid : Option Value) (h : Heap) (tk : Nat), s₁ = { s with heap := h, toks := tk } ∧ hi - lo ≤ f ∧ lo ≤ hi ∧ hi ≤ cs.length ∧ bis (leftAt cs x) f lo hi = bis (leftAt cs x) cs.length 0 cs.length ∧
    Fr g L1 h (bisM ar (.str x t) (.ref 809) lo hi tl th mid) ∧ News g L1 h news) ?turn ?init
  case init =>
    refine ⟨0, cs.length, _, _, _, _, _, rfl, by omega, by omega, by omega, rfl, bis_fr F2 rfl rfl rfl rfl rfl rfl ?_, N2⟩
    intro y h1 h2 h3 h4 h5 h6
    simp [List.lookup, beq_eq_false_iff_ne.mpr h1, beq_eq_false_iff_ne.mpr h2, beq_eq_false_iff_ne.mpr h4, beq_eq_false_iff_ne.mpr h5, beq_eq_false_iff_ne.mpr h6, h2]
  case turn =>
    rintro f s₁ ⟨lo, hi, tl, th, mid, h, tk, rfl, hf, hlh, hhn, hb, F3, N3⟩
    clear F2 N2
    walk_at "my steps"
    by_cases hlt : lo < hi
    · refine WhlIf.yes (by simpa using hlt) ?_
      have e1 := mid_of lo hi
      have e2 : lo ≤ (lo + hi) / 2 ∧ (lo + hi) / 2 < hi := by omega
      walk_at "my steps"
      all_goals (dsimp only; obtain ⟨f', rfl⟩ : ∃ f', f = f' + 1 := ⟨f - 1, by omega⟩)
      · rename News g L1 _ _ => N4
        rename (quoteF _).cps.toList < _ => hx
        rename cs[_]? = some _ => hc
        have hp : leftAt cs x ((lo + hi) / 2) = true := decide_eq_true (by rw [keyAt_of hc]; exact hx)
        rw [bis_up hlt hp] at hb
        rename Fr g L1 _ _ => F4
        have F5 := bis_fr F4 rfl rfl rfl rfl rfl rfl (by intro y h1 h2 h3 h4 h5 h6; simp [bisM, h1, h2, h3, h4, h5, h6])
        rw [← up_is] at F5
        exact ⟨f', by omega, (lo + hi) / 2 + 1, hi, _, _, _, _, _, rfl, by omega, by omega, by omega, hb, F5, N4⟩
      · rename News g L1 _ _ => N4
        rename ¬ (quoteF _).cps.toList < _ => hx
        rename cs[_]? = some _ => hc
        have hp : leftAt cs x ((lo + hi) / 2) = false := decide_eq_false (by rw [keyAt_of hc]; exact hx)
        rw [bis_down hlt hp] at hb
        rename Fr g L1 _ _ => F4
        have F5 := bis_fr F4 rfl rfl rfl rfl rfl rfl (by intro y h1 h2 h3 h4 h5 h6; simp [bisM, h1, h2, h3, h4, h5, h6])
        rw [mid_of] at F5
        exact ⟨f', by omega, lo, (lo + hi) / 2, _, _, _, _, _, rfl, by omega, by omega, by omega, hb, F5, N4⟩
    · refine WhlIf.no (by simpa using hlt) ?_
      walk_at "my steps"
      rw [bis_stop hlt] at hb
      rw [← hb] at hret
      exact hret _ _ _ (by k_asm) (by k_asm)
theorem bisR_gen (w : World) (ar : Addr) (cs : List Cell) (n : Nat) (x : Str) (t t0 : Tok) (vs : List Value) (hB : ∀ S1, peek (K w.params) S1 (bindArgs (fnS (st 5) (S "bisect_right") (S "bisect_right") (.ref 54) (.ref 55) .none (.str (S "cpy313.bisect") 331) none (.ref 61) .none) ⟨vs, [(S "key", .ref 809)]⟩) = some [(S "a", .ref ar), (S "x", .str x t), (S "lo", .int 0 t0), (S "hi", .none), (S "key", .ref 809)]) :
    GivesIf w 62 vs [(S "key", .ref 809)] (RowAt ar cs n) (fun t => .int (bis (rightAt cs x) cs.length 0 cs.length : Nat) t) 4 40 := by
  unfold GivesIf
  k_fill
  intro p loose mean mg mb news dp un gd cn sc a ccd cl outer A₀ base h₀ L m s Q E B F X N T hk hd hu hm hret
  refine wpAny_call ?_
  k_dflt (refine' enter (binds := [(S "a", .ref ar), (S "x", .str x t), (S "lo", .int 0 t0), (S "hi", .none), (S "key", .ref 809)]) ?hp ?hb ?hsc ?k1 ?k2 ?k3 ?k4 ?k5 ?kA ?kF ?kK ?k6 ?k7 ?k8 ?k9 ?kB ?_ ?c2 ?c3 ?c4 ?c5; (case k9 => exact bindsTo_peek (X.keeps F.keep) hB); walk_at "my cases"; intro g L1 h1 FG F1 N1 B1 X1 T1; (try dsimp only); (try k_lift B1); (try k_fold))
  walk_at "my steps"
  rename Fr g L1 _ _ => F2
  rename News g L1 _ _ => N2
  refine whl_by (n := cs.length) (fun f s₁ => ∃ (lo hi : Nat) (tl th : Tok) (mid : Option Value) (h : Heap) (tk : Nat), s₁ = { s with heap := h, toks := tk } ∧ hi - lo ≤ f ∧ lo ≤ hi ∧ hi ≤ cs.length ∧ bis (rightAt cs x) f lo hi = bis (rightAt cs x) cs.length 0 cs.length ∧
    Fr g L1 h (bisM ar (.str x t) (.ref 809) lo hi tl th mid) ∧ News g L1 h news) ?turn ?init
  case init =>
    refine ⟨0, cs.length, _, _, _, _, _, rfl, by omega, by omega, by omega, rfl, bis_fr F2 rfl rfl rfl rfl rfl rfl ?_, N2⟩
    intro y h1 h2 h3 h4 h5 h6
    simp [List.lookup, beq_eq_false_iff_ne.mpr h1, beq_eq_false_iff_ne.mpr h2, beq_eq_false_iff_ne.mpr h4, beq_eq_false_iff_ne.mpr h5, beq_eq_false_iff_ne.mpr h6, h2]
  case turn =>
    rintro f s₁ ⟨lo, hi, tl, th, mid, h, tk, rfl, hf, hlh, hhn, hb, F3, N3⟩
    clear F2 N2
    walk_at "my steps"
    by_cases hlt : lo < hi
    · refine WhlIf.yes (by simpa using hlt) ?_
      have e1 := mid_of lo hi
      have e2 : lo ≤ (lo + hi) / 2 ∧ (lo + hi) / 2 < hi := by omega
      walk_at "my steps"
      all_goals (dsimp only; obtain ⟨f', rfl⟩ : ∃ f', f = f' + 1 := ⟨f - 1, by omega⟩)
      · rename News g L1 _ _ => N4
        rename _ < (quoteF _).cps.toList => hx
        rename cs[_]? = some _ => hc
        have hp : rightAt cs x ((lo + hi) / 2) = false := by unfold rightAt; rw [keyAt_of hc, decide_eq_true hx]; rfl
        rw [bis_down hlt hp] at hb
        rename Fr g L1 _ _ => F4
        have F5 := bis_fr F4 rfl rfl rfl rfl rfl rfl (by intro y h1 h2 h3 h4 h5 h6; simp [bisM, h1, h2, h3, h4, h5, h6])
        rw [mid_of] at F5
        exact ⟨f', by omega, lo, (lo + hi) / 2, _, _, _, _, _, rfl, by omega, by omega, by omega, hb, F5, N4⟩
      · rename News g L1 _ _ => N4
        rename ¬ _ < (quoteF _).cps.toList => hx
        rename cs[_]? = some _ => hc
        have hp : rightAt cs x ((lo + hi) / 2) = true := by unfold rightAt; rw [keyAt_of hc, decide_eq_false hx]; rfl
        rw [bis_up hlt hp] at hb
        rename Fr g L1 _ _ => F4
        have F5 := bis_fr F4 rfl rfl rfl rfl rfl rfl (by intro y h1 h2 h3 h4 h5 h6; simp [bisM, h1, h2, h3, h4, h5, h6])
        rw [← up_is] at F5
        exact ⟨f', by omega, (lo + hi) / 2 + 1, hi, _, _, _, _, _, rfl, by omega, by omega, by omega, hb, F5, N4⟩
    · refine WhlIf.no (by simpa using hlt) ?_
      walk_at "my steps"
      rw [bis_stop hlt] at hb
      rw [← hb] at hret
      exact hret _ _ _ (by k_asm) (by k_asm)
theorem bisL_ok (w : World) (ar : Addr) (cs : List Cell) (n : Nat) (x : Str) (t : Tok) : GivesIf w 80 [.ref ar, .str x t] [(S "key", .ref 809)] (RowAt ar cs n) (fun t => .int (bis (leftAt cs x) cs.length 0 cs.length : Nat) t) 4 40 :=
  bisL_gen w ar cs n x t 373 _ fun _ => by kernel_rfl
theorem bisL_ok4 (w : World) (ar : Addr) (cs : List Cell) (n : Nat) (x : Str) (t t0 : Tok) : GivesIf w 80 [.ref ar, .str x t, .int 0 t0, .none] [(S "key", .ref 809)] (RowAt ar cs n) (fun t => .int (bis (leftAt cs x) cs.length 0 cs.length : Nat) t) 4 40 :=
  bisL_gen w ar cs n x t t0 _ fun _ => by kernel_rfl
theorem bisR_ok (w : World) (ar : Addr) (cs : List Cell) (n : Nat) (x : Str) (t : Tok) : GivesIf w 62 [.ref ar, .str x t] [(S "key", .ref 809)] (RowAt ar cs n) (fun t => .int (bis (rightAt cs x) cs.length 0 cs.length : Nat) t) 4 40 :=
  bisR_gen w ar cs n x t 346 _ fun _ => by kernel_rfl
theorem bisR_ok4 (w : World) (ar : Addr) (cs : List Cell) (n : Nat) (x : Str) (t t0 : Tok) : GivesIf w 62 [.ref ar, .str x t, .int 0 t0, .none] [(S "key", .ref 809)] (RowAt ar cs n) (fun t => .int (bis (rightAt cs x) cs.length 0 cs.length : Nat) t) 4 40 :=
  bisR_gen w ar cs n x t t0 _ fun _ => by kernel_rfl
end
section
def Inserts (w : World) (f : Addr) (ar : Addr) (cs : List Cell) (n : Nat) (c : Cell) (i : Nat) : Prop :=
  ∀ (p : Program) (loose : List Str) (mean : ExcName → Option Value) (mg mb : Str → Option Value) (news : List (Addr × Obj)) (dp un : Nat) (gd : Option (List Code)) (cn : Str) (sc : Scope) (a : Addr) (ccd : Value) (cl : List (Str × Addr)) (outer : List Env) (A₀ : Around) (base h₀ : Heap) (L : Addr) (m : Str → Option Value) (s : Shared) (Q E : Value → Shared → Prop),
    Below A₀ base outer h₀ → Fr h₀ L s.heap m → (K w.params).In h₀ → News h₀ L s.heap news → Top p loose mean mg mb h₀ → sc.kind = .function → dp + 6 < recursionLimit → un + 60 < cLine →
    RowAt ar cs n news → (c.adr, c.obj) ∈ news → c.Ok → (news.map (·.1)).Nodup →
    (∀ h' tk', Fr h₀ L h' m → News h₀ L h' (put ar (rowObj (cs.take i ++ c :: cs.drop i) (n + 1)) news) → Q .none { s with heap := h', toks := tk' }) →
    wpAny (model PySem.Challenge.rw_mr0367_01.prog w) (ktrTop dp un gd cn sc L a ccd cl outer) (call (.ref f) [.ref ar, .ref c.adr] [(S "key", .ref 809)]) Q E s
theorem bis_le (p : Nat → Bool) : ∀ (f lo hi : Nat), lo ≤ hi → bis p f lo hi ≤ hi
  | 0, lo, hi, h => h
  | f + 1, lo, hi, h => by
    unfold bis
    split
    · split
      · exact bis_le p f _ _ (by omega)
      · exact Nat.le_trans (bis_le p f _ _ (by omega)) (by omega)
    · exact h
theorem ins_is {cs : List Cell} {c : Cell} {i : Nat} (hi : i ≤ cs.length) : kl_ins (cs.map Cell.val) (i : Int) (.ref c.adr) = (cs.take i ++ c :: cs.drop i).map Cell.val := by
  unfold kl_ins
  have h0 : ¬ (i : Int) < 0 := by omega
  rw [if_neg h0, List.length_map, Int.toNat_natCast, Nat.min_eq_left hi]
  simp
theorem fits_is {i : Nat} (h : i ≤ 100) : Builtin.List.listFitsIndex (i : Int) = true := by
  simp only [Builtin.List.listFitsIndex]
  simp; omega
local macro_rules | `(tactic| walk_at "call ref") => `(tactic| (k_here; (with_reducible show wpAny _ _ (call (Value.ref 809) _) _ _ _); k_dflt (refine' GivesIf.use (written_ok _ _ ?q1) ?k1 ?k2 ?k3 ?k4 ?k5 ?kK ?kd ?ku ?q2 ?_; (case q2 => assumption); (case q1 => assumption); (case k1 => k_asm); (case k2 => k_asm); (case k3 => k_asm); (case k4 => k_asm); (case k5 => k_asm); (case kK => first | exact rfl | assumption); (case kd => ktr_room); (case ku => ktr_units); k_whole; intro t9 h9 tk9 F9 N9; (try dsimp only [written]); (try k_fold))))
local macro_rules | `(tactic| walk_at "call ref") => `(tactic| (k_here; (with_reducible show wpAny _ _ (call (Value.ref 80) _ _) _ _ _); k_dflt (refine' GivesIf.use (bisL_ok4 _ _ _ _ _ _ _) ?k1 ?k2 ?k3 ?k4 ?k5 ?kK ?kd ?ku ?q2 ?_; (case q2 => assumption); (case k1 => k_asm); (case k2 => k_asm); (case k3 => k_asm); (case k4 => k_asm); (case k5 => k_asm); (case kK => first | exact rfl | assumption); (case kd => ktr_room); (case ku => ktr_units); k_whole; intro t9 h9 tk9 F9 N9; (try dsimp only); (try k_fold))))
local macro_rules | `(tactic| walk_at "call ref") => `(tactic| (k_here; (with_reducible show wpAny _ _ (call (Value.ref 62) _ _) _ _ _); k_dflt (refine' GivesIf.use (bisR_ok4 _ _ _ _ _ _ _) ?k1 ?k2 ?k3 ?k4 ?k5 ?kK ?kd ?ku ?q2 ?_; (case q2 => assumption); (case k1 => k_asm); (case k2 => k_asm); (case k3 => k_asm); (case k4 => k_asm); (case k5 => k_asm); (case kK => first | exact rfl | assumption); (case kd => ktr_room); (case ku => ktr_units); k_whole; intro t9 h9 tk9 F9 N9; (try dsimp only); (try k_fold))))
section
variable {w : World} {A : Around} {E : Value → Shared → Prop} {s : Shared} {Q : Value → Shared → Prop} {h₀ : Heap} {L : Addr} {m : Str → Option Value} {news : List (Addr × Obj)} {ar : Addr} {cs : List Cell} {n : Nat}
theorem ins_row {i : Nat} {u : Tok} {c : Cell} (F : Fr h₀ L s.heap m) (N : News h₀ L s.heap news) (R : RowAt ar cs n news) (nd : (news.map (·.1)).Nodup) (hi : i ≤ cs.length)
    (h : ∀ h', Fr h₀ L h' m → News h₀ L h' (put ar (rowObj (cs.take i ++ c :: cs.drop i) (n + 1)) news) → Q .none { s with heap := h' }) :
    wpAny (model PySem.Challenge.rw_mr0367_01.prog w) A (call (.builtin "list.insert") [.ref ar, .int (i : Int) u, .ref c.adr]) Q E s := by
  have hs := R.short
  refine kl_insert (its := (cs.map Cell.val).toArray) (n := n) F N (fits_is (by omega)) (by rw [List.toList_toArray]; exact ins_is hi) (upd_put nd R.row) ?_ h
  rw [List.toList_toArray, List.length_map]
  have : sizeLine = 16777216 := by decide
  omega
end
local macro_rules | `(tactic| walk_at "call builtin:list.insert") => `(tactic| (k_here; (with_reducible show wpAny _ _ (call (Value.builtin _) [Value.ref _, Value.int _ _, _]) _ _ _); k_dflt (refine' ins_row ?F ?N ?R ?nd ?hi ?_; (case F => k_asm); (case N => k_asm); (case R => assumption); (case nd => assumption); (case hi => exact bis_le _ _ _ _ (Nat.zero_le _)); k_whole); intro h9 F9 N9; (try dsimp only)))
theorem insL_ok (w : World) (ar : Addr) (cs : List Cell) (n : Nat) (c : Cell) : Inserts w 71 ar cs n c (bis (leftAt cs (quoteF c.w)) cs.length 0 cs.length) := by
  unfold Inserts
  k_fill
  intro p loose mean mg mb news dp un gd cn sc a ccd cl outer A₀ base h₀ L m s Q E B F X N T hk hd hu hm hcm hcO hnd hret
  have hr := hm.row
  refine wpAny_call ?_
  k_dflt (refine' enter (binds := [(S "a", .ref ar), (S "x", .ref c.adr), (S "lo", .int 0 360), (S "hi", .none), (S "key", .ref 809)]) ?hp ?hb ?hsc ?k1 ?k2 ?k3 ?k4 ?k5 ?kA ?kF ?kK ?k6 ?k7 ?k8 ?k9 ?kB ?_ ?c2 ?c3 ?c4 ?c5; walk_at "my cases"; intro g L1 h1 FG F1 N1 B1 X1 T1; (try dsimp only); (try k_lift B1); (try k_fold))
  k_steps
  all_goals exact hret _ _ (by k_asm) (by k_asm)
theorem insR_ok (w : World) (ar : Addr) (cs : List Cell) (n : Nat) (c : Cell) : Inserts w 53 ar cs n c (bis (rightAt cs (quoteF c.w)) cs.length 0 cs.length) := by
  unfold Inserts
  k_fill
  intro p loose mean mg mb news dp un gd cn sc a ccd cl outer A₀ base h₀ L m s Q E B F X N T hk hd hu hm hcm hcO hnd hret
  have hr := hm.row
  refine wpAny_call ?_
  k_dflt (refine' enter (binds := [(S "a", .ref ar), (S "x", .ref c.adr), (S "lo", .int 0 333), (S "hi", .none), (S "key", .ref 809)]) ?hp ?hb ?hsc ?k1 ?k2 ?k3 ?k4 ?k5 ?kA ?kF ?kK ?k6 ?k7 ?k8 ?k9 ?kB ?_ ?c2 ?c3 ?c4 ?c5; walk_at "my cases"; intro g L1 h1 FG F1 N1 B1 X1 T1; (try dsimp only); (try k_lift B1); (try k_fold))
  k_steps
  all_goals exact hret _ _ (by k_asm) (by k_asm)
end
section
open PySem PySem.W PySem.Calls PyProof.Rows PyProof.Rows.LCg PyProof.Rows.LCt
section
variable {prog : Program} {w : World} {A : Around} {E : Value → Shared → Prop} {s : Shared} {h₀ : Heap} {L : Addr} {m : Str → Option Value} {env : Env}
theorem CompEnd.mono {s₁ s₂ : Shared} {I C D : Addr} {oI oC oD : Obj} {S : List (Addr × Obj) → Prop} {rest rest' : Value → List (Addr × Obj) → Prop} {y : Value} (x : CompEnd h₀ L m s₁ I oI C oC D oD S rest y s₂) (h : ∀ nw, rest y nw → rest' y nw) : CompEnd h₀ L m s₁ I oI C oC D oD S rest' y s₂ := by
  obtain ⟨h', tk, nw, e, F, N, o, hS, r⟩ := x
  exact ⟨h', tk, nw, e, F, N, o, hS, h _ r⟩
/-- the turns of a comprehension with a test, by an invariant -/
theorem compT_by {ct elt : Expr} {x : Str} {scope : Scope} {cl : List (Str × Addr)} {S : List (Addr × Obj) → Prop} {P : Nat → Value → Prop} {Fin : List Value → List (Addr × Obj) → Prop} {n : Nat}
    (J : Nat → List Value → List (Addr × Obj) → Prop) (fin : ∀ ys nw, J n ys nw → Fin ys nw)
    (turn : ∀ i ys news, i < n → J i ys news → ∀ v I oI C oC D m₂ h tk (E' : Value → Shared → Prop), P i v → NsObj oC m₂ → m₂ x = some v → Fr h₀ L h m → News h₀ L h ((I, oI) :: (C, oC) :: (D, lst ys) :: news) → Off3 I C D news → ((@Ne Nat I C) ∧ (@Ne Nat I D) ∧ (@Ne Nat C D)) →
      wpAny (model prog w) A (isTrue ct (compEnvC scope cl C env) (eval ct (compEnvC scope cl C env))) (fun ok s' => if ok = true then
        wpAny (model prog w) A (eval elt (compEnvC scope cl C env)) (CompEnd h₀ L m { s with heap := h, toks := tk } I oI C oC D (lst ys) S (fun y news' => J (i + 1) (ys ++ [y]) news')) E' s'
        else CompEnd h₀ L m { s with heap := h, toks := tk } I oI C oC D (lst ys) S (fun _ news' => J (i + 1) ys news') Value.none s') E' { s with heap := h, toks := tk }) :
    ∀ k i ys news, i + k = n → J i ys news → CompRestT prog w A h₀ L m env ct elt x scope cl s S P Fin k i ys news := by
  intro k
  induction k with
  | zero =>
    intro i ys news e hJ
    exact CompRestT.zero (fin _ _ (by rw [← e]; exact hJ))
  | succ k ih =>
    intro i ys news e hJ
    refine CompRestT.succ ?_
    intro v I oI C oC D m₂ h tk E' hv hC hx F N o ne
    refine wpAny_mono (turn i ys news (by omega) hJ v I oI C oC D m₂ h tk E' hv hC hx F N o ne) (fun ok s' q => ?_) fun _ _ q => q
    cases ok with
    | true =>
      rw [if_pos rfl] at q ⊢
      exact wpAny_mono q (fun y s₂ z => CompEnd.mono z fun nw r => ih (i + 1) _ _ (by omega) r) fun _ _ q => q
    | false =>
      rw [if_neg Bool.false_ne_true] at q ⊢
      exact CompEnd.mono q fun nw r => ih (i + 1) _ _ (by omega) r
def SrcS (prog : Program) (w : World) (A : Around) (h₀ : Heap) (L : Addr) (m : Str → Option Value) (env : Env) (ct elt : Expr) (x : Str) (scope : Scope) (cl : List (Str × Addr)) (Q : Value → Shared → Prop) (xv : Value) (s₁ : Shared) : Prop :=
  ∃ (y : Str) (t : Tok) (news : List (Addr × Obj)), xv = .str y t ∧ A.handled = none ∧ Fr h₀ L s₁.heap m ∧ News h₀ L s₁.heap news ∧ y.cps.size ≤ sizeLine ∧
      ∀ g, CompRestT prog w A h₀ L m env ct elt x scope cl { s₁ with heap := g } (fun _ => True) (SignAt y) (FinE h₀ L m { s₁ with heap := g } Q) y.cps.size 0 [] news
/-- a comprehension with one test over a text's signs -/
theorem ListComp_S {ct elt iter : Expr} {x : Str} {px : Pos} {scope : Scope} {cl : List (Str × Addr)} {pos : Pos} {Q : Value → Shared → Prop} (_F₀ : Fr h₀ L s.heap m)
    (hclos : closureFor scope env = pure cl) (hcell : ∀ y ∈ scope.names, y.2 ≠ .cell) (hkind : scope.kind = .function)
    (hnames : ∀ y ∈ scope.names, y.2 = .local → scope.names.lookup y.1 = some .local) (hx : scope.names.lookup x = some .local)
    (h : wpAny (model prog w) A (eval iter env) (SrcS prog w A h₀ L m env ct elt x scope cl Q) E s)
    (hs : ∀ x, foldedSetIterable iter env x = pure x := by intro _; rfl) :
    wpAny (model prog w) A (eval (.ListComp elt [⟨.Name x px, iter, [ct], 0⟩] scope pos) env) Q E s := by
  rw [eval_ListComp]
  refine wpAny_comprehension_free (use := none) rfl hs hclos hkind hnames (wpAny_mono h (fun xv s₁ h₁ => ?_) fun _ _ e => e)
  obtain ⟨y, t, news, rfl, hh, F, N, hsz, R⟩ := h₁
  cases ha : y.cps.all (· < 128)
  · refine wpAny_pyIter_wide ha (block_T (S := fun _ => True) (Walks.strWide hh _ y t) hsz (fun i h st => by obtain ⟨o, e, _⟩ := st; exact ⟨o, e⟩)
      (fun i h h' o nw st e e' _ _ _ => by obtain ⟨o1, e1, r⟩ := st; rw [e] at e1; cases e1; exact ⟨_, e', r⟩) hcell hkind hx ⟨_, Heap.get?_push_size _ rfl, rfl, rfl⟩
      (fun b hb => by rw [List.mem_singleton.mp hb]; show s₁.heap.objs.size < (s₁.heap.push _).objs.size; rw [Heap.size_push]; exact Nat.lt_succ_self _)
      (F.keeps fun _ _ e => Heap.get?_push_of_some _ e) (N.grown fun _ _ e => Heap.get?_push_of_some _ e) (Nat.ne_of_lt F.ns.lt) (next_is_new F) (fun p hp => Nat.ne_of_lt (Heap.lt_size (N p hp).1)) trivial (R _) ?_)
    intro D C h tk m' ys news' F' N' o1 hn hC₀ hD₀ hCL hDL hCD offC fin
    refine ⟨m', hn, fun h'' hs'' => fin D h'' tk (F'.change hs'' hCL hC₀) (fun p hp => ?_) o1⟩
    refine ⟨hs''.extBut _ _ ?_ (N' p hp).1, (N' p hp).2⟩
    rcases List.mem_cons.mp hp with rfl | hp
    · exact Ne.symm hCD
    · exact offC p hp
  · refine wpAny_pyIter_ascii ha (block_T (S := fun _ => True) (Walks.strAscii hh _ y t) hsz (fun i h st => by obtain ⟨o, e, _⟩ := st; exact ⟨o, e⟩)
      (fun i h h' o nw st e e' _ _ _ => by obtain ⟨o1, e1, r⟩ := st; rw [e] at e1; cases e1; exact ⟨_, e', r⟩) hcell hkind hx ⟨_, Heap.get?_push_size _ rfl, rfl, rfl⟩
      (fun b hb => by rw [List.mem_singleton.mp hb]; show s₁.heap.objs.size < (s₁.heap.push _).objs.size; rw [Heap.size_push]; exact Nat.lt_succ_self _)
      (F.keeps fun _ _ e => Heap.get?_push_of_some _ e) (N.grown fun _ _ e => Heap.get?_push_of_some _ e) (Nat.ne_of_lt F.ns.lt) (next_is_new F) (fun p hp => Nat.ne_of_lt (Heap.lt_size (N p hp).1)) trivial (R _) ?_)
    intro D C h tk m' ys news' F' N' o1 hn hC₀ hD₀ hCL hDL hCD offC fin
    refine ⟨m', hn, fun h'' hs'' => fin D h'' tk (F'.change hs'' hCL hC₀) (fun p hp => ?_) o1⟩
    refine ⟨hs''.extBut _ _ ?_ (N' p hp).1, (N' p hp).2⟩
    rcases List.mem_cons.mp hp with rfl | hp
    · exact Ne.symm hCD
    · exact offC p hp
end
local macro_rules | `(tactic| walk_at "my steps") => `(tactic| repeat' ((fail_if_success (with_reducible show wpAny _ _ (eval (Expr.ListComp _ _ _ _) _) _ _ _)); (first | (k_unfold; (try dsimp only)) | (k_end; wrow_close) | walk1 | (dsimp only; walk1) | (leave1; walk_say "STEP leave1"; try dsimp only) | fail "no step")))
def zv (z : Str × Tok) : Value := .str z.1 z.2
theorem readsAll_strs {h : Heap} : ∀ zs : List (Str × Tok), ReadsAll h (zs.map zv) (zs.map fun z => PyData.str z.1) []
  | [] => .nil
  | z :: r => by
    have := ReadsAll.cons (Reads.str (h := h) z.1 z.2) (readsAll_strs (h := h) r)
    simpa [zv] using this
theorem canLay_strs : ∀ zs : List (Str × Tok), (∀ z ∈ zs, PyData.canLay0 (.str z.1) = true) → PyData.canLayAll0 (zs.map fun z => PyData.str z.1) = true
  | [], _ => by simp [PyData.canLayAll0]
  | z :: r, h => by
    have h1 := h z (.head _)
    simp only [List.map_cons, PyData.canLayAll0, h1, Bool.true_and]
    exact canLay_strs r fun y hy => h y (.tail _ hy)
theorem depth_strs : ∀ zs : List (Str × Tok), PyData.depthAll (zs.map fun z => PyData.str z.1) = 0
  | [] => rfl
  | z :: r => by simp [PyData.depthAll, PyData.depth, depth_strs r]
theorem ne_nil {w : World} {A : Around} {E : Value → Shared → Prop} {s : Shared} {Q : Value → Shared → Prop} {h₀ : Heap} {L D l : Addr} {news : List (Addr × Obj)} {zs : List (Str × Tok)} {n k : Nat} (N : News h₀ L s.heap news)
    (hD : (D, ({ cls := .type "list", data := .seq (zs.map zv).toArray n } : Obj)) ∈ news) (hl : (l, ({ cls := .type "list", data := .seq ([] : List Value).toArray k } : Obj)) ∈ news) (hz : ∀ z ∈ zs, PyData.canLay0 (.str z.1) = true)
    (hu : A.units + 64 < cLine) (h : Q (.bool (!zs.isEmpty)) s) : wpAny (model PySem.Challenge.rw_mr0367_01.prog w) A (compareOp .NotEq (.ref D) (.ref l)) Q E s := by
  have r1 : Reads s.heap (.ref D) (.list (zs.map fun z => PyData.str z.1)) [D] := .list (N _ hD).1 rfl rfl (by rw [List.toList_toArray]; exact readsAll_strs zs)
  have r2 : Reads s.heap (.ref l) (.list []) [l] := .list (N _ hl).1 rfl rfl .nil
  have sh : SeqAt.shaped (.list (zs.map fun z => PyData.str z.1)) = true := by
    simp [SeqAt.shaped, PyData.canLay0, PyData.depth, canLay_strs zs hz, depth_strs]
  refine ne_dataH_same r1 r2 sh (by decide) hu ?_ ?_
  · cases zs with
    | nil => simp [SeqAt.noMix, SeqAt.noMixAll]
    | cons z r => simp [SeqAt.noMix, SeqAt.noMixAll]
  · cases zs with
    | nil => simpa [PySem.Spec.same, PySem.Spec.sameAll] using h
    | cons z r => simpa [PySem.Spec.same, PySem.Spec.sameAll] using h
theorem occ_bare {c : Nat} (h : okC c = true) : (Builtin.Str.occurrences (Str.ofString "%+-/0:@Z_a") ⟨#[c]⟩ 0 (Str.ofString "%+-/0:@Z_a").length 1).isEmpty = !bareC c := by
  rcases okC_cases h with rfl | rfl | rfl | rfl | rfl | rfl | rfl | rfl | rfl | rfl | rfl | rfl | rfl | rfl | rfl | rfl | rfl | rfl <;> decide +kernel
theorem lay_one {c : Nat} (h : okC c = true) : PyData.canLay0 (.str ⟨#[c]⟩) = true := by
  rcases okC_cases h with rfl | rfl | rfl | rfl | rfl | rfl | rfl | rfl | rfl | rfl | rfl | rfl | rfl | rfl | rfl | rfl | rfl | rfl <;> decide +kernel
def blockF (l : List Nat) : Nat := if l = [] then 1 else if l.all bareC then (if l.head? = some 37 then 0 else 2) else 1
theorem block_bare {x : Str} (hne : x.cps.toList ≠ []) (h : ∀ j, j < x.cps.size → bareC (x.cps.getD j 0) = true) : blockF x.cps.toList = if x.cps.toList.head? = some 37 then 0 else 2 := by
  unfold blockF
  rw [if_neg hne, if_pos (all_of_getD.mpr h)]
theorem item_pct {x : Str} (hne : x.cps.toList ≠ []) : (Txt.item x 0 == Str.ofString "%") = decide (x.cps.toList.head? = some 37) := by
  obtain ⟨⟨l⟩⟩ := x
  cases l with
  | nil => exact absurd rfl hne
  | cons c r =>
    have e : Txt.item ⟨⟨c :: r⟩⟩ 0 = ⟨#[c]⟩ := by
      simp [Txt.item, Txt.charAt, seqIndex?, Str.length]
    rw [e, show Str.ofString "%" = ⟨#[37]⟩ from by decide +kernel, List.head?_cons]
    by_cases h : c = 37
    · subst h; simp
    · have : ¬ (⟨#[c]⟩ : Str) = ⟨#[37]⟩ := fun q => h (by simpa using q)
      simp [h]
local macro_rules | `(tactic| walk_at "compareOp NotEq ref ref") => `(tactic| (k_here; (with_reducible show wpAny _ _ (compareOp CmpOp.NotEq (Value.ref _) (Value.ref _)) _ _ _); k_dflt (refine' ne_nil ?N ?D ?l ?z ?u ?_; (case N => k_asm); (case D => k_mem); (case l => k_mem); (case z => assumption); (case u => ktr_units); k_whole)))
theorem block_ok (w : World) (x : Str) (t : Tok) (hok : okS x) (hlen : x.length ≤ 1000) : Gives w 814 [.str x t] (fun t' => .int (blockF x.cps.toList : Nat) t') 2 200 := by
  unfold Gives
  k_fill
  intro p loose mean mg mb news dp un gd cn sc a ccd cl outer A₀ base h₀ L m s Q E B F X N T hk hd hu hret
  refine wpAny_call ?_
  k_dflt (refine' enter (binds := [(S "word", .str x t)]) ?hp ?hb ?hsc ?k1 ?k2 ?k3 ?k4 ?k5 ?kA ?kF ?kK ?k6 ?k7 ?k8 ?k9 ?kB ?_ ?c2 ?c3 ?c4 ?c5; walk_at "my cases"; intro g L1 h1 FG F1 N1 B1 X1 T1; (try dsimp only); (try k_lift B1); (try k_fold))
  walk_at "my steps"
  · rename (x == Str.ofString "") = true => hx
    have hx' : x = Str.ofString "" := by simpa using hx
    subst hx'
    exact hret _ _ _ (by k_asm) (by k_asm)
  rename (x == Str.ofString "") = false => hxe
  have hne : x.cps.toList ≠ [] := fun e => by
    have : x = Str.ofString "" := Str.ext' (by rw [show (Str.ofString "").cps = #[] from by decide +kernel]; exact Array.toList_inj.mp e)
    rw [this] at hxe
    simp at hxe
  rename Fr g L1 _ _ => F2
  rename News g L1 _ _ => N2
  k_dflt (refine' ListComp_S F2 ?q1 ?q2 ?q3 ?q4 ?q5 ?_; (case q1 => with_unfolding_all rfl); (case q2 => decide); (case q3 => rfl); (case q4 => decide); (case q5 => rfl))
  walk_at "my steps"
  refine ⟨x, t, news, rfl, rfl, by assumption, by assumption, ?_, fun g1 => ?_⟩
  · have : x.cps.size ≤ 1000 := hlen
    have : sizeLine = 16777216 := by decide
    omega
  clear F2 N2
  refine compT_by (fun i ys nw => nw = news ∧ ∃ zs : List (Str × Tok), ys = zs.map zv ∧ (∀ z ∈ zs, PyData.canLay0 (.str z.1) = true) ∧ (zs = [] ↔ ∀ j, j < i → bareC (x.cps.getD j 0) = true)) ?fin ?turn _ _ _ _ (Nat.zero_add _) ⟨rfl, [], rfl, by simp, by simp⟩
  case turn =>
    rintro i _ _ hi ⟨rfl, zs, rfl, hz, hys⟩ v I oI C oC D m₂ h tk E' hv hC hx F N o ne
    obtain ⟨c, u, hc, rfl⟩ := hv
    have hgc : x.cps.getD i 0 = c := by rw [Array.getD_eq_getD_getElem?, hc]; rfl
    have hco : okC c = true := by rw [← hgc]; exact hok i hi
    have hob := occ_bare hco
    walk_at "my steps"
    · rename (Builtin.Str.occurrences _ _ _ _ _).isEmpty = true => hq
      rw [hob] at hq
      refine CompEnd.intro (by assumption) (by assumption) _ (fun p hp => hp) o trivial ⟨rfl, zs ++ [(⟨#[c]⟩, u)], by simp [zv], ?_, ?_⟩
      · intro z hz'
        rcases List.mem_append.mp hz' with h1 | h1
        · exact hz z h1
        · rw [List.mem_singleton.mp h1]; exact lay_one hco
      · constructor
        · intro e; simp at e
        · intro e
          have := e i (Nat.lt_succ_self _)
          rw [hgc] at this
          rw [this] at hq
          cases hq
    · rename (Builtin.Str.occurrences _ _ _ _ _).isEmpty = false => hq
      rw [hob] at hq
      refine CompEnd.intro (by assumption) (by assumption) _ (fun p hp => hp) o trivial ⟨rfl, zs, rfl, hz, ?_⟩
      rw [hys]
      constructor
      · intro e j hj
        by_cases h5 : j = i
        · subst h5; rw [hgc]; cases hb : bareC c with
          | true => rfl
          | false => rw [hb] at hq; cases hq
        · exact e j (by omega)
      · intro e j hj
        exact e j (by omega)
  case fin =>
    rintro _ _ ⟨rfl, zs, rfl, hz, hys⟩
    unfold FinE
    intro D h2 tk2 F3 N3 o3
    dsimp only
    walk_at "my steps"
    · rename zs.isEmpty = true => hze
      rename (Txt.item x 0 == Str.ofString "%") = true => hit
      have e1 := block_bare hne (hys.mp (List.isEmpty_iff.mp hze))
      rw [item_pct hne, decide_eq_true_eq] at hit
      rw [if_pos hit] at e1
      rw [e1] at hret
      exact hret _ _ _ (by k_asm) (cb_drop (by assumption) (fun p hp => .tail _ (.tail _ hp)))
    · rename zs.isEmpty = true => hze
      rename (Txt.item x 0 == Str.ofString "%") = false => hit
      have e1 := block_bare hne (hys.mp (List.isEmpty_iff.mp hze))
      rw [item_pct hne, decide_eq_false_iff_not] at hit
      rw [if_neg hit] at e1
      rw [e1] at hret
      exact hret _ _ _ (by k_asm) (cb_drop (by assumption) (fun p hp => .tail _ (.tail _ hp)))
    · rename zs.isEmpty = false => hze
      have e1 : blockF x.cps.toList = 1 := by
        unfold blockF
        rw [if_neg hne, if_neg]
        intro q
        have : zs = [] := hys.mpr (all_of_getD.mp q)
        rw [this] at hze
        cases hze
      rw [e1] at hret
      exact hret _ _ _ (by k_asm) (cb_drop (by assumption) (fun p hp => .tail _ (.tail _ hp)))
end
section
def aheadF (a b : List Nat) : Bool := if blockF a ≠ blockF b then decide (blockF a < blockF b) else if blockF a = 1 then decide (a ++ [39] < b ++ [39]) else decide (a < b)
theorem apos_add {x : Str} (h : x.length ≤ 1000) : x.length ≤ 5001 := by omega
local macro_rules | `(tactic| walk_at "binaryOp Add str str") => `(tactic| (refine' PySem.W.KXadd.add (K := 5001) (L := 5001) ?a ?b ?c ?_; (case a => exact apos_add (by assumption)); (case b => exact apos_len); (case c => decide); intro t9 k9 l9; clear l9))
local macro_rules | `(tactic| walk_at "call ref") => `(tactic| (k_here; (with_reducible show wpAny _ _ (call (Value.ref 814) _) _ _ _); k_dflt (refine' Gives.use (block_ok _ _ _ ?q1 ?q2) ?k1 ?k2 ?k3 ?k4 ?k5 ?kK ?kd ?ku ?_; (case q1 => assumption); (case q2 => assumption); (case k1 => k_asm); (case k2 => k_asm); (case k3 => k_asm); (case k4 => k_asm); (case k5 => k_asm); (case kK => first | exact rfl | assumption); (case kd => ktr_room); (case ku => ktr_units); k_whole; intro t9 h9 tk9 F9 N9; (try dsimp only); (try k_fold))))
theorem ahead_1 {a b : List Nat} (h : ((blockF a : Nat) : Int) ≠ ((blockF b : Nat) : Int)) : decide (((blockF a : Nat) : Int) < ((blockF b : Nat) : Int)) = aheadF a b := by
  unfold aheadF
  rw [if_pos (by omega)]
  simp
theorem ahead_2 {x y : Str} (h : ((blockF x.cps.toList : Nat) : Int) = ((blockF y.cps.toList : Nat) : Int)) (h1 : ((blockF x.cps.toList : Nat) : Int) = 1) :
    decide ((x ++ Str.ofString "'").cps.toList < (y ++ Str.ofString "'").cps.toList) = aheadF x.cps.toList y.cps.toList := by
  unfold aheadF
  rw [if_neg (by omega), if_pos (by omega), show Str.ofString "'" = ⟨#[39]⟩ from by decide +kernel]
  simp [Str.cps_append]
theorem ahead_3 {a b : List Nat} (h : ((blockF a : Nat) : Int) = ((blockF b : Nat) : Int)) (h1 : ((blockF a : Nat) : Int) ≠ 1) : decide (a < b) = aheadF a b := by
  unfold aheadF
  rw [if_neg (by omega), if_neg (by omega)]
theorem ahead_ok (w : World) (x y : Str) (t u : Tok) (hx : okS x) (hxl : x.length ≤ 1000) (hy : okS y) (hyl : y.length ≤ 1000) : Gives w 821 [.str x t, .str y u] (fun _ => .bool (aheadF x.cps.toList y.cps.toList)) 4 300 := by
  unfold Gives
  k_fill
  intro p loose mean mg mb news dp un gd cn sc a ccd cl outer A₀ base h₀ L m s Q E B F X N T hk hd hu hret
  refine wpAny_call ?_
  k_dflt (refine' enter (binds := [(S "one", .str x t), (S "other", .str y u)]) ?hp ?hb ?hsc ?k1 ?k2 ?k3 ?k4 ?k5 ?kA ?kF ?kK ?k6 ?k7 ?k8 ?k9 ?kB ?_ ?c2 ?c3 ?c4 ?c5; walk_at "my cases"; intro g L1 h1 FG F1 N1 B1 X1 T1; (try dsimp only); (try k_lift B1); (try k_fold))
  k_steps
  all_goals refine cb_retB (x := aheadF x.cps.toList y.cps.toList) hret ?_ (by k_asm) (by k_asm)
  all_goals first | exact ahead_1 (by assumption) | exact ahead_2 (by assumption) (by assumption) | exact ahead_3 (by assumption) (by assumption)
end
section
theorem index_ok (w : World) (t1 t2 : Tok) (what : Str) : Gives w 99 [.int 1 t1, .str what t2] (fun t => .int 1 t) 1 8 := by
  unfold Gives
  k_fill
  intro p loose mean mg mb news dp un gd cn sc a ccd cl outer A₀ base h₀ L m s Q E B F X N T hk hd hu hret
  refine wpAny_call ?_
  k_dflt (refine' enter (binds := [(S "n", .int 1 t1), (S "what", .str what t2)]) ?hp ?hb ?hsc ?k1 ?k2 ?k3 ?k4 ?k5 ?kA ?kF ?kK ?k6 ?k7 ?k8 ?k9 ?kB ?_ ?c2 ?c3 ?c4 ?c5; walk_at "my cases"; intro g L1 h1 FG F1 N1 B1 X1 T1; (try dsimp only); (try k_lift B1); (try k_fold))
  k_steps
  all_goals cb_end hret
/-- the stream's dict -/
abbrev sioD (P : Params) (k1 k2 k3 t1 t2 t3 : Tok) (line : Str) (p : Int) : Obj := dictOf [⟨PyData.keyHash P (S "_StringIO__newline"), .str (S "_StringIO__newline") k1, .str (S "\n") t1⟩, ⟨PyData.keyHash P (S "_StringIO__buf"), .str (S "_StringIO__buf") k2, .str line t2⟩, ⟨PyData.keyHash P (S "_StringIO__pos"), .str (S "_StringIO__pos") k3, .int p t3⟩] 3
/-- as Gives, under a premise of the ledger -/
def GivesI (w : World) (f : Addr) (vs : List Value) (P : List (Addr × Obj) → Prop) (R : Tok → Value) (d u : Nat) : Prop :=
  ∀ (p : Program) (loose : List Str) (mean : ExcName → Option Value) (mg mb : Str → Option Value) (news : List (Addr × Obj)) (dp un : Nat) (gd : Option (List Code)) (cn : Str) (cs : Scope) (a : Addr) (ccd : Value) (cl : List (Str × Addr)) (outer : List Env) (A₀ : Around) (base h₀ : Heap) (L : Addr) (m : Str → Option Value) (s : Shared) (Q E : Value → Shared → Prop),
    Below A₀ base outer h₀ → Fr h₀ L s.heap m → (K w.params).In h₀ → News h₀ L s.heap news → Top p loose mean mg mb h₀ → cs.kind = .function → dp + d < recursionLimit → un + u < cLine → P news →
    (∀ t h' tk', Fr h₀ L h' m → News h₀ L h' news → Q (R t) { s with heap := h', toks := tk' }) →
    wpAny (model PySem.Challenge.rw_mr0367_01.prog w) (ktrTop dp un gd cn cs L a ccd cl outer) (call (.ref f) vs) Q E s
theorem GivesI.use {w : World} {f : Addr} {vs : List Value} {P : List (Addr × Obj) → Prop} {R : Tok → Value} {d u : Nat} (G : GivesI w f vs P R d u) {p : Program} {loose : List Str} {mean : ExcName → Option Value} {mg mb : Str → Option Value} {news : List (Addr × Obj)} {dp un : Nat} {gd : Option (List Code)} {cn : Str} {cs : Scope} {a : Addr} {ccd : Value} {cl : List (Str × Addr)} {outer : List Env} {A₀ : Around} {base h₀ : Heap} {L : Addr} {m : Str → Option Value} {s : Shared} {Q E : Value → Shared → Prop}
    (B : Below A₀ base outer h₀) (F : Fr h₀ L s.heap m) (X : (K w.params).In h₀) (N : News h₀ L s.heap news) (T : Top p loose mean mg mb h₀) (hk : cs.kind = .function) (hd : dp + d < recursionLimit) (hu : un + u < cLine) (hP : P news)
    (ret : ∀ t h' tk', Fr h₀ L h' m → News h₀ L h' news → Q (R t) { s with heap := h', toks := tk' }) :
    wpAny (model PySem.Challenge.rw_mr0367_01.prog w) (ktrTop dp un gd cn cs L a ccd cl outer) (call (.ref f) vs) Q E s :=
  G _ _ _ _ _ _ _ _ _ _ _ _ _ _ _ _ _ _ _ _ _ _ _ B F X N T hk hd hu hP ret
theorem Gives.use' {w : World} {f : Addr} {vs : List Value} {R : Tok → Value} {d u : Nat} (G : Gives w f vs R d u) {p : Program} {loose : List Str} {mean : ExcName → Option Value} {mg mb : Str → Option Value} {news : List (Addr × Obj)} {dp un : Nat} {gd : Option (List Code)} {cn : Str} {cs : Scope} {a : Addr} {ccd : Value} {cl : List (Str × Addr)} {outer : List Env} {A₀ : Around} {base h₀ : Heap} {L : Addr} {m : Str → Option Value} {s : Shared} {Q E : Value → Shared → Prop}
    (B : Below A₀ base outer h₀) (F : Fr h₀ L s.heap m) (X : (K w.params).In h₀) (N : News h₀ L s.heap news) (T : Top p loose mean mg mb h₀) (hk : cs.kind = .function) (hd : dp + d < recursionLimit) (hu : un + u < cLine)
    (ret : ∀ t h' tk', Fr h₀ L h' m → News h₀ L h' news → Q (R t) { s with heap := h', toks := tk' }) :
    wpAny (model PySem.Challenge.rw_mr0367_01.prog w) (ktrTop dp un gd cn cs L a ccd cl outer) (call (.ref f) vs) Q E s :=
  G _ _ _ _ _ _ _ _ _ _ _ _ _ _ _ _ _ _ _ _ _ _ _ B F X N T hk hd hu ret
theorem check_ok (w : World) (xs dx : Addr) (k1 k2 k3 t1 t2 t3 : Tok) (line : Str) (p : Int) : GivesI w 417 [.ref xs] (fun news => (xs, instObj 633 dx) ∈ news ∧ (dx, sioD w.params k1 k2 k3 t1 t2 t3 line p) ∈ news) (fun _ => .none) 1 20 := by
  unfold GivesI
  k_fill
  intro p' loose mean mg mb news dp un gd cn sc a ccd cl outer A₀ base h₀ L m s Q E B F X N T hk hd hu hP hret
  obtain ⟨hm1, hm2⟩ := hP
  refine wpAny_call ?_
  k_dflt (refine' enter (binds := [(S "self", .ref xs)]) ?hp ?hb ?hsc ?k1 ?k2 ?k3 ?k4 ?k5 ?kA ?kF ?kK ?k6 ?k7 ?k8 ?k9 ?kB ?_ ?c2 ?c3 ?c4 ?c5; walk_at "my cases"; intro g L1 h1 FG F1 N1 B1 X1 T1; (try dsimp only); (try k_lift B1); (try k_fold))
  k_steps
  all_goals exact hret 0 _ _ (by k_asm) (by k_asm)
local macro_rules | `(tactic| walk_at "call ref") => `(tactic| (k_here; (with_reducible show wpAny _ _ (call (Value.ref 99) _) _ _ _); k_dflt (refine' Gives.use' (index_ok _ _ _ _) ?k1 ?k2 ?k3 ?k4 ?k5 ?kK ?kd ?ku ?_; (case k1 => k_asm); (case k2 => k_asm); (case k3 => k_asm); (case k4 => k_asm); (case k5 => k_asm); (case kK => first | exact rfl | assumption); (case kd => ktr_room); (case ku => ktr_units); k_whole; intro t9 h9 tk9 F9 N9; (try dsimp only); (try k_fold))))
local macro_rules | `(tactic| walk_at "call ref") => `(tactic| (k_here; (with_reducible show wpAny _ _ (call (Value.ref 417) _) _ _ _); k_dflt (refine' GivesI.use (check_ok _ _ _ _ _ _ _ _ _ _ _) ?k1 ?k2 ?k3 ?k4 ?k5 ?kK ?kd ?ku ?q ?_; (case k1 => k_asm); (case k2 => k_asm); (case k3 => k_asm); (case k4 => k_asm); (case k5 => k_asm); (case kK => first | exact rfl | assumption); (case kd => ktr_room); (case ku => ktr_units); (case q => exact ⟨by k_mem, by k_mem⟩); k_whole; intro t9 h9 tk9 F9 N9; (try dsimp only); (try k_fold))))
local macro_rules | `(tactic| k_all) => `(tactic| assumption)
/-- the sign at a place, or nothing at the end -/
def rd (line : Str) (p : Nat) : Str := ⟨((line.cps.toList.drop p).take 1).toArray⟩
def nx (line : Str) (p : Nat) : Int := if p < line.length then p + 1 else p
theorem rd_end {line : Str} {p : Nat} (h : ¬ p < line.length) : rd line p = Str.empty := by
  have e : line.cps.toList.drop p = [] := List.drop_eq_nil_iff.mpr (by
    have : line.cps.toList.length = line.length := rfl
    omega)
  unfold rd
  rw [e]
  rfl
theorem rd_slice {line : Str} {p : Nat} {j : Int} (h : p < line.length) (hj : j = p + 1) : Txt.slice line (some (p : Int)) (some j) = rd line p := by
  have e : line.cps.toList.length = line.length := rfl
  have := eq_of_beq (slice_closes (x := line) (i := p) (j := j) ⟨by omega, by omega, by omega⟩)
  rw [this]
  unfold rd
  have e1 : (j - (p : Int)).toNat = 1 := by omega
  have e2 : ((p : Int)).toNat = p := by omega
  rw [e1, e2]
theorem read_ok (w : World) (xs dx : Addr) (k1 k2 k3 t1 t2 t3 t : Tok) (line : Str) (p : Nat) (rest : List (Addr × Obj)) (hl : line.length ≤ 10000) (hne1 : ∀ q ∈ rest, q.1 ≠ xs) (hne2 : ∀ q ∈ rest, q.1 ≠ dx) (hxd : @LT.lt Nat _ dx xs)
   (p' : Program) (loose : List Str) (mean : ExcName → Option Value) (mg mb : Str → Option Value) (dp un : Nat) (gd : Option (List Code)) (cn : Str) (sc : Scope) (a : Addr) (ccd : Value) (cl : List (Str × Addr)) (outer : List Env) (A₀ : Around) (base h₀ : Heap) (L : Addr) (m : Str → Option Value) (s : Shared) (Q E : Value → Shared → Prop)
    (B : Below A₀ base outer h₀) (F : Fr h₀ L s.heap m) (X : (K w.params).In h₀) (N : News h₀ L s.heap ((xs, instObj 633 dx) :: (dx, sioD w.params k1 k2 k3 t1 t2 t3 line p) :: rest)) (T : Top p' loose mean mg mb h₀) (hk : sc.kind = .function) (hd : dp + 4 < recursionLimit) (hu : un + 100 < cLine) (hp : p ≤ line.length)
    (hret : ∀ t t3' h' tk', Fr h₀ L h' m → News h₀ L h' ((xs, instObj 633 dx) :: (dx, sioD w.params k1 k2 k3 t1 t2 t3' line (nx line p)) :: rest) → Q (.str (rd line p) t) { s with heap := h', toks := tk' }) :
    wpAny (model PySem.Challenge.rw_mr0367_01.prog w) (ktrTop dp un gd cn sc L a ccd cl outer) (call (.ref 579) [.ref xs, .int 1 t]) Q E s := by
  by_cases hp' : p < line.length
  · have e1 : nx line p = p + 1 := if_pos hp'
    rw [e1] at hret
    k_fill
    refine wpAny_call ?_
    k_dflt (refine' enter (binds := [(S "self", .ref xs), (S "size", .int 1 t)]) ?hp ?hb ?hsc ?k1 ?k2 ?k3 ?k4 ?k5 ?kA ?kF ?kK ?k6 ?k7 ?k8 ?k9 ?kB ?_ ?c2 ?c3 ?c4 ?c5; walk_at "my cases"; intro g L1 h1 FG F1 N1 B1 X1 T1; (try dsimp only); (try k_lift B1); (try k_fold))
    k_steps
    · rw [rd_slice hp' rfl]
      exact hret _ _ _ _ (by k_asm) (by k_asm)
    · have e2 : (line.length : Int) = (p : Int) + 1 := by omega
      rw [rd_slice hp' e2]
      rw [← e2] at hret
      exact hret _ _ _ _ (by k_asm) (by k_asm)
  · have e1 : nx line p = p := if_neg hp'
    rw [e1, rd_end hp'] at hret
    k_fill
    refine wpAny_call ?_
    k_dflt (refine' enter (binds := [(S "self", .ref xs), (S "size", .int 1 t)]) ?hp ?hb ?hsc ?k1 ?k2 ?k3 ?k4 ?k5 ?kA ?kF ?kK ?k6 ?k7 ?k8 ?k9 ?kB ?_ ?c2 ?c3 ?c4 ?c5; walk_at "my cases"; intro g L1 h1 FG F1 N1 B1 X1 T1; (try dsimp only); (try k_lift B1); (try k_fold))
    k_steps
    · exact hret _ _ _ _ (by k_asm) (by k_asm)
end
section
/-- an empty deque -/
abbrev deqObj : Obj := { cls := .type "collections.deque", data := .fields #[.none, .int 0 0] }
theorem dq_slot : Slot "collections.deque" "__len__" "collections.deque.__len__" :=
  .of (owner := "collections.deque") (n := "__len__") (by rw [typeLookup_type, builtinLookup_eq_fast]; kernel_rfl) (by decide +kernel) (by decide +kernel) (by decide +kernel)
    (by first | exact .inl (by decide +kernel) | exact .inr (by decide +kernel)) (by rw [isSubtype_type]; kernel_rfl)
theorem dq_entry : entryFor table "collections.deque.__len__" = some Builtin.«collections.deque.__len__» := entryFor_of_tree (by kernel_rfl)
theorem dq_args (a : Value) : argsOk "collections.deque.__len__" ⟨[a], []⟩ := by unfold argsOk; kernel_rfl
theorem dq_noBool : typeLookup (.type "collections.deque") "__bool__" = pure none := by rw [typeLookup_type, builtinLookup_eq_fast]; kernel_rfl
section
variable {prog : Program} {w : World} {A : Around} {E : Value → Shared → Prop} {s : Shared}
theorem dq_type {l : Addr} (hl : s.heap.get? l = some deqObj) : s.TypeIs (.ref l) "collections.deque" := ⟨_, hl, rfl⟩
theorem dq_len {l : Addr} {Q : Value → Shared → Prop} (hl : s.heap.get? l = some deqObj)
    (h : Q (.int 0 (s.toks + 1)) { s with toks := s.toks + 1 + 1 }) : wpAny (model prog w) A (Builtin.«len» ⟨[.ref l], []⟩) (fun fin s' => ∃ r, fin = .done (.ret r) ∧ Q r s') E s := by
  unfold Builtin.«len»
  refine wpAny_bind (m := oneArg "len" _) (wpAny_pure ?_)
  refine wpAny_bind (m := callSpecial? (.ref l) (Str.ofString "__len__")) (wpAny_callSpecial?_slot (name := Str.ofString "__len__") (dq_type hl) dq_slot
    (wpAny_call_entry dq_slot (dq_type hl) dq_entry ?_ (dq_args _)))
  · show wpAny _ _ ((Builtin.Deque.size (.ref l)) >>= fun n => retInt n) _ _ s
    unfold Builtin.Deque.size fieldsOf
    refine wpAny_bind (wpAny_bind (wpAny_bind (wpAny_load hl ?_)))
    refine wpAny_pure (wpAny_pure (wpAny_bind (wpAny_mkInt (wpAny_pure ⟨_, rfl, ?_⟩))))
    refine wpAny_bind (wpAny_holding (wpAny_pure ?_))
    refine wpAny_bind (wpAny_letGo ?_)
    exact wpAny_bind (wpAny_mkInt (wpAny_pure ⟨_, rfl, h⟩))
theorem dq_truthy {l : Addr} {Q : Bool → Shared → Prop} (hl : s.heap.get? l = some deqObj)
    (h : Q false { s with toks := s.toks + 1 + 1 }) : wpAny (model prog w) A (truthy (.ref l)) Q E s := by
  have key : wpAny (model prog w) A (runValue (.builtin "len" ⟨[.ref l], []⟩)) (fun r s' => r = .int 0 (s.toks + 1) ∧ Q false s') E s := by
    refine wpAny_runValue (codeAny_builtin entry_len ?_)
    rw [Around.under_plainId plain_len _]
    exact wpAny_mono (dq_len (Q := fun r s' => r = .int 0 (s.toks + 1) ∧ Q false s') hl ⟨rfl, h⟩)
      (fun fin s' h' => by obtain ⟨r, rfl, hq⟩ := h'; exact hq) fun _ _ e => e
  unfold truthy
  first
    | refine wpAny_bind (wpAny_callSpecial?_none (name := Str.ofString "__bool__") (dq_type hl) dq_noBool ?_)
    | refine wpAny_bind (wpAny_pure (wpAny_bind (wpAny_callSpecial?_none (name := Str.ofString "__bool__") (dq_type hl) dq_noBool ?_)))
  first
    | refine wpAny_bind (wpAny_specialOf (name := Str.ofString "__len__") (dq_type hl) dq_slot.lookup ?_)
    | refine wpAny_bind (wpAny_pure (wpAny_bind (wpAny_specialOf (name := Str.ofString "__len__") (dq_type hl) dq_slot.lookup ?_)))
  first
    | exact wpAny_bind (wpAny_mono key (fun r s' h' => by obtain ⟨rfl, hq⟩ := h'; exact wpAny_pure hq) fun _ _ e => e)
    | exact wpAny_bind (wpAny_pure (wpAny_bind (wpAny_mono key (fun r s' h' => by obtain ⟨rfl, hq⟩ := h'; exact wpAny_pure hq) fun _ _ e => e)))
end
theorem dq_mro : mroOf (.type "collections.deque") = pure [.type "collections.deque", .type "object"] := by rw [mroOf_type]; kernel_rfl
theorem dq_lookup_new : typeLookup (.type "collections.deque") "__new__" = pure (some (.builtin "collections.deque.__new__")) := by rw [typeLookup_type, builtinLookup_eq_fast]; kernel_rfl
theorem dq_slot_init : Slot "collections.deque" "__init__" "collections.deque.__init__" :=
  .of (owner := "collections.deque") (n := "__init__") (by rw [typeLookup_type, builtinLookup_eq_fast]; kernel_rfl) (by decide +kernel) (by decide +kernel) (by decide +kernel)
    (by first | exact .inl (by decide +kernel) | exact .inr (by decide +kernel)) (by rw [isSubtype_type]; kernel_rfl)
theorem dq_called : TypeCalled "collections.deque" "collections.deque.__new__" "collections.deque.__init__" :=
  ⟨by decide +kernel, by decide +kernel, ⟨_, _, dq_mro⟩, madeBy_type dq_mro dq_lookup_new (by decide +kernel), by decide +kernel, by rw [isSubtype_type]; kernel_rfl, dq_slot_init⟩
theorem dq_typeCall : checkTypeCall "collections.deque" ⟨[], []⟩ = pure () := by kernel_rfl
theorem dq_newCall : checkBuiltinCall "collections.deque.__new__" ⟨[.type "collections.deque"], []⟩ = pure () := by kernel_rfl
theorem dq_entry_new : entryFor table "collections.deque.__new__" = some Builtin.«collections.deque.__new__» := entryFor_of_tree (by kernel_rfl)
theorem dq_entry_init : entryFor table "collections.deque.__init__" = some Builtin.«collections.deque.__init__» := entryFor_of_tree (by kernel_rfl)
theorem dq_plain_new : plainId "collections.deque.__new__" = true := by decide +kernel
theorem dq_args_init (a : Value) : argsOk "collections.deque.__init__" ⟨[a], []⟩ := by unfold argsOk; kernel_rfl
theorem dq_isType : isType (.type "collections.deque") = pure true := by kernel_rfl
theorem dq_sub : isSubtype (.type "collections.deque") (.type "collections.deque") = pure true := by rw [isSubtype_type]; kernel_rfl
section
variable {prog : Program} {w : World} {A : Around} {E : Value → Shared → Prop} {s : Shared}
theorem dq_new {Q₁ : Value → Shared → Prop} (h : Q₁ (.ref s.heap.objs.size) { s with heap := s.heap.push deqObj }) :
    codeAny (model prog w) A (.call (.builtin "collections.deque.__new__") ⟨[.type "collections.deque"], []⟩) (wants Q₁ E) s := by
  refine codeAny_of_tree ?_
  show wpAny _ A.in1 (do checkBuiltinCall "collections.deque.__new__" ⟨[.type "collections.deque"], []⟩; again (.builtin "collections.deque.__new__" ⟨[.type "collections.deque"], []⟩)) _ _ s
  refine wpAny_bind (wpAny_of_eq dq_newCall (wpAny_pure ⟨plainId_quiet dq_plain_new _, codeAny_builtin dq_entry_new ?_⟩))
  rw [Around.under_plainId dq_plain_new _]
  have h1 := dq_isType
  have h2 := dq_sub
  obtain ⟨hp, g, d, tk, os⟩ := s
  unfold Builtin.«collections.deque.__new__» Builtin.Deque.newArgs
  wp_walk
  unfold Builtin.Deque.ty
  wp_walk
  exact h
theorem dq_init {a : Addr} {R : Fin → Shared → Prop} {E' : Value → Shared → Prop} (ha : s.heap.get? a = some deqObj) (h : R (.done (.ret .none)) s) : wpAny (model prog w) A (Builtin.«collections.deque.__init__» ⟨[.ref a], []⟩) R E' s := by
  obtain ⟨hp, g, d, tk, os⟩ := s
  unfold Builtin.«collections.deque.__init__»
  wp_walk
  rw [Heap.update_setField_same hp a deqObj _ 0 .none ha rfl rfl]
  exact h
theorem dq_make {Q : Value → Shared → Prop} {h₀ : Heap} {L : Addr} {m : Str → Option Value} {news : List (Addr × Obj)} (F : Fr h₀ L s.heap m) (N : News h₀ L s.heap news)
    (h : ∀ q h', Fr h₀ L h' m → News h₀ L h' ((q, deqObj) :: news) → (∀ p ∈ news, p.1 < q) → Q (.ref q) { s with heap := h' }) : wpAny (model prog w) A (call (.type "collections.deque") []) Q E s := by
  refine callType_codes (Q₁ := fun obj s₁ => obj = .ref s.heap.objs.size ∧ s₁ = { s with heap := s.heap.push deqObj }) dq_called dq_typeCall dq_entry_init (dq_new ⟨rfl, rfl⟩) ?_
  rintro obj s₁ ⟨rfl, rfl⟩
  have hg : (s.heap.push deqObj).get? s.heap.objs.size = some deqObj := by heap_get
  exact ⟨dq_type hg, dq_args_init _, dq_init hg ⟨rfl, h _ _ (F.push _) (N.push F _) fun p hp => Heap.lt_size (N p hp).1⟩⟩
end
end
section
local macro_rules | `(tactic| walk_at "my steps") => `(tactic| repeat' ((fail_if_success (with_reducible show wpAny _ _ (exec (Stmt.While _ _ _ _) _) _ _ _)); (first | (k_unfold; (try dsimp only)) | (k_end; wrow_close) | walk1 | (dsimp only; walk1) | (leave1; walk_say "STEP leave1"; try dsimp only) | fail "no step")))
abbrev eN (P : Params) (k : Nat → Tok) (i : Nat) (n : String) (v : Value) : DictEntry := ⟨PyData.keyHash P (S n), .str (S n) (k i), v⟩
/-- the lexer's dict -/
abbrev shD (P : Params) (k v : Nat → Tok) (wc : Str) (xs q1 q2 : Addr) (sv : Value) (ln : Int) (tl : Tok) (tok : Str) (tt : Tok) : Obj := dictOf
  [eN P k 0 "instream" (.ref xs), eN P k 1 "infile" .none, eN P k 2 "posix" (.bool true), eN P k 3 "eof" .none, eN P k 4 "commenters" (.str (S "") (v 4)), eN P k 5 "wordchars" (.str wc (v 5)), eN P k 6 "whitespace" (.str (S " \t\r\n") (v 6)), eN P k 7 "whitespace_split" (.bool true),
   eN P k 8 "quotes" (.str (S "'\"") (v 8)), eN P k 9 "escape" (.str (S "\\") (v 9)), eN P k 10 "escapedquotes" (.str (S "\"") (v 10)), eN P k 11 "state" sv, eN P k 12 "pushback" (.ref q1), eN P k 13 "lineno" (.int ln tl), eN P k 14 "debug" (.int 0 (v 14)), eN P k 15 "token" (.str tok tt),
   eN P k 16 "filestack" (.ref q2), eN P k 17 "source" .none, eN P k 18 "_punctuation_chars" (.str (S "") (v 18))] 19
theorem punc_get {w : World} {ax da : Addr} {k v : Nat → Tok} {wc : Str} {xs q1 q2 : Addr} {sv : Value} {ln : Int} {tl : Tok} {tok : Str} {tt : Tok} {expr : Bool} {news : List (Addr × Obj)}
   {p' : Program} {loose : List Str} {mean : ExcName → Option Value} {mg mb : Str → Option Value} {dp un : Nat} {gd : Option (List Code)} {cn : Str} {sc : Scope} {a : Addr} {ccd : Value} {cl : List (Str × Addr)} {outer : List Env} {A₀ : Around} {base h₀ : Heap} {L : Addr} {m : Str → Option Value} {s : Shared} {Q E : Value → Shared → Prop}
    (B : Below A₀ base outer h₀) (F : Fr h₀ L s.heap m) (X : (K w.params).In h₀) (N : News h₀ L s.heap news) (T : Top p' loose mean mg mb h₀) (hk : sc.kind = .function) (hd : dp + 1 < recursionLimit) (hu : un + 20 < cLine)
    (hm1 : (ax, instObj 768 da) ∈ news) (hm2 : (da, shD w.params k v wc xs q1 q2 sv ln tl tok tt) ∈ news)
    (hret : ∀ h' tk', Fr h₀ L h' m → News h₀ L h' news → Q (.str (S "") (v 18)) { s with heap := h', toks := tk' }) :
    wpAny (model PySem.Challenge.rw_mr0367_01.prog w) (ktrTop dp un gd cn sc L a ccd cl outer) (getAttr (.ref ax) (S "punctuation_chars") expr) Q E s := by
  revert X
  k_fill
  intro X
  k_dflt (refine' get_prop ?k1 ?k2 ?k3 ?k4 ?k5 ?k6 ?k7 ?k8 ?k9 ?_; (case k1 => k_asm); (case k2 => k_asm); (case k3 => k_inst); (case k4 => k_is); (case k5 => k_is); (case k6 => k_is); (case k7 => k_is); (case k8 => k_is); (case k9 => k_is); k_whole)
  k_dflt (refine' enter (binds := [(S "self", .ref ax)]) ?hp ?hb ?hsc ?k1 ?k2 ?k3 ?k4 ?k5 ?kA ?kF ?kK ?k6 ?k7 ?k8 ?k9 ?kB ?_ ?c2 ?c3 ?c4 ?c5; walk_at "my cases"; intro g L1 h1 FG F1 N1 B1 X1 T1; (try dsimp only); (try k_lift B1); (try k_fold))
  k_steps
  all_goals exact hret _ _ (by k_asm) (by k_asm)
theorem ne2 {a b x : Addr} {o1 o2 : Obj} {rest : List (Addr × Obj)} (h1 : a ≠ x) (h2 : b ≠ x) (h : ∀ q ∈ rest, q.1 ≠ x) : ∀ q ∈ (a, o1) :: (b, o2) :: rest, q.1 ≠ x := by
  intro q hq
  rcases List.mem_cons.mp hq with rfl | hq
  · exact h1
  · rcases List.mem_cons.mp hq with rfl | hq
    · exact h2
    · exact h q hq
theorem in_no {prog : Program} {w : World} {A : Around} {E : Value → Shared → Prop} {s : Shared} {x y : Str} {u t : Tok} {Q : Value → Shared → Prop} (hb : (Builtin.Str.occurrences x y 0 x.length 1).isEmpty = true) (h : Q (.bool false) s) : wpAny (model prog w) A (compareOp .In (.str y u) (.str x t)) Q E s :=
  in_str (by rw [hb]; exact h)
theorem in_yes {prog : Program} {w : World} {A : Around} {E : Value → Shared → Prop} {s : Shared} {x y : Str} {u t : Tok} {Q : Value → Shared → Prop} (hb : (Builtin.Str.occurrences x y 0 x.length 1).isEmpty = false) (h : Q (.bool true) s) : wpAny (model prog w) A (compareOp .In (.str y u) (.str x t)) Q E s :=
  in_str (by rw [hb]; exact h)
theorem notIn_known {prog : Program} {w : World} {A : Around} {E : Value → Shared → Prop} {s : Shared} {x y : Str} {u t : Tok} {Q : Value → Shared → Prop} {b : Bool} (hb : (Builtin.Str.occurrences x y 0 x.length 1).isEmpty = b) (h : Q (.bool b) s) : wpAny (model prog w) A (compareOp .NotIn (.str y u) (.str x t)) Q E s := by
  subst hb; exact notIn_str (by simpa using h)
/-- reading, the sign known -/
theorem read_x {w : World} {xs dx : Addr} {k1 k2 k3 t1 t2 t3 t : Tok} {line : Str} {p : Nat} {x : Str} {j : Int} (hx : rd line p = x) (hj : nx line p = j) {rest : List (Addr × Obj)}
   {p' : Program} {loose : List Str} {mean : ExcName → Option Value} {mg mb : Str → Option Value} {dp un : Nat} {gd : Option (List Code)} {cn : Str} {sc : Scope} {a : Addr} {ccd : Value} {cl : List (Str × Addr)} {outer : List Env} {A₀ : Around} {base h₀ : Heap} {L : Addr} {m : Str → Option Value} {s : Shared} {Q E : Value → Shared → Prop}
    (B : Below A₀ base outer h₀) (F : Fr h₀ L s.heap m) (X : (K w.params).In h₀) (N : News h₀ L s.heap ((xs, instObj 633 dx) :: (dx, sioD w.params k1 k2 k3 t1 t2 t3 line p) :: rest)) (T : Top p' loose mean mg mb h₀) (hk : sc.kind = .function) (hd : dp + 4 < recursionLimit) (hu : un + 100 < cLine)
    (hl : line.length ≤ 10000) (hne1 : ∀ q ∈ rest, q.1 ≠ xs) (hne2 : ∀ q ∈ rest, q.1 ≠ dx) (hxd : @LT.lt Nat _ dx xs) (hp : p ≤ line.length)
    (hret : ∀ t t3' h' tk', Fr h₀ L h' m → News h₀ L h' ((xs, instObj 633 dx) :: (dx, sioD w.params k1 k2 k3 t1 t2 t3' line j) :: rest) → Q (.str x t) { s with heap := h', toks := tk' }) :
    wpAny (model PySem.Challenge.rw_mr0367_01.prog w) (ktrTop dp un gd cn sc L a ccd cl outer) (call (.ref 579) [.ref xs, .int 1 t]) Q E s := by
  subst hx hj
  exact read_ok w xs dx k1 k2 k3 t1 t2 t3 t line p rest hl hne1 hne2 hxd p' loose mean mg mb dp un gd cn sc a ccd cl outer A₀ base h₀ L m s Q E B F X N T hk hd hu hp hret
abbrev rtM (ax : Addr) (qd : Bool) (te : Tok) (nc : Option Value) (y : Str) : Option Value :=
  if y = S "quoted" then some (.bool qd) else if y = S "escapedstate" then some (.str (S " ") te) else if y = S "nextchar" then nc else if y = S "self" then some (.ref ax) else none
theorem rt_fr {h₀ h : Heap} {L : Addr} {m : Str → Option Value} {ax : Addr} {qd : Bool} {te : Tok} {nc : Option Value} (F : Fr h₀ L h m) (e1 : m (S "quoted") = some (.bool qd)) (e2 : m (S "escapedstate") = some (.str (S " ") te)) (e3 : m (S "nextchar") = nc)
    (e4 : m (S "self") = some (.ref ax)) (e7 : ∀ y, y ≠ S "quoted" → y ≠ S "escapedstate" → y ≠ S "nextchar" → y ≠ S "self" → m y = none) : Fr h₀ L h (rtM ax qd te nc) := by
  refine Fr.cast F fun y => ?_
  unfold rtM
  split
  · rename_i e; rw [e, e1]
  · split
    · rename_i e; rw [e, e2]
    · split
      · rename_i e; rw [e, e3]
      · split
        · rename_i e; rw [e, e4]
        · exact e7 y (by assumption) (by assumption) (by assumption) (by assumption)
local macro_rules | `(tactic| k_all) => `(tactic| assumption)
local macro_rules | `(tactic| walk_at "getAttr ref") => `(tactic| (k_here; (with_reducible show wpAny _ _ (getAttr (Value.ref _) (Str.ofString "punctuation_chars") _) _ _ _); k_dflt (refine' punc_get ?k1 ?k2 ?k3 ?k4 ?k5 ?kK ?kd ?ku ?q1 ?q2 ?_; (case k1 => k_asm); (case k2 => k_asm); (case k3 => k_asm); (case k4 => k_asm); (case k5 => k_asm); (case kK => first | exact rfl | assumption); (case kd => ktr_room); (case ku => ktr_units); (case q1 => k_mem); (case q2 => k_mem); k_whole; intro h9 tk9 F9 N9; (try dsimp only); (try k_fold))))
local macro_rules | `(tactic| walk_at "call ref") => `(tactic| (k_here; (with_reducible show wpAny _ _ (call (Value.ref 579) _) _ _ _); k_dflt (refine' read_x ?hx ?hj ?k1 ?k2 ?k3 ?k4 ?k5 ?kK ?kd ?ku ?hl ?n1 ?n2 ?n3 ?hp ?_; (case k1 => k_asm); (case k2 => k_asm); (case k3 => k_asm); (case k4 => k_asm); (case k5 => k_asm); (case hx => assumption); (case hj => assumption); (case kK => first | exact rfl | assumption); (case kd => ktr_room); (case ku => ktr_units); (case hl => assumption); (case n1 => exact ne2 (by assumption) (by assumption) (by assumption)); (case n2 => exact ne2 (by assumption) (by assumption) (by assumption)); (case n3 => assumption); (case hp => assumption); k_whole; intro t9 t8 h9 tk9 F9 N9; (try dsimp only); (try k_fold))))
local macro_rules | `(tactic| walk_at "compareOp In str str") => `(tactic| (first | refine in_no (by first | assumption | decide +kernel) ?_ | refine in_yes (by first | assumption | decide +kernel) ?_))
local macro_rules | `(tactic| walk_at "compareOp NotIn str str") => `(tactic| ((first | refine notIn_known (by assumption) ?_ | refine notIn_known (b := false) (by decide +kernel) ?_ | refine notIn_known (b := true) (by decide +kernel) ?_)))
theorem eq_known {prog : Program} {w : World} {A : Around} {E : Value → Shared → Prop} {s : Shared} {x y : Str} {u t : Tok} {Q : Value → Shared → Prop} {b : Bool} (hb : (x == y) = b) (h : Q (.bool b) s) : wpAny (model prog w) A (compareOp .Eq (.str x t) (.str y u)) Q E s := by
  subst hb; exact PyProof.Rows.eq_str h
theorem truthy_one {prog : Program} {w : World} {A : Around} {E : Value → Shared → Prop} {s : Shared} {c : Nat} {t : Tok} {Q : Bool → Shared → Prop} (h : Q true { s with toks := s.toks + 1 + 1 }) : wpAny (model prog w) A (truthy (.str ⟨#[c]⟩ t)) Q E s :=
  SBL.truthy (by show (1 : Int) < 9223372036854775808; decide) h
local macro_rules | `(tactic| walk_at "compareOp Eq str str") => `(tactic| ((first | refine eq_known (by assumption) ?_ | refine eq_known (b := false) (by decide +kernel) ?_ | refine eq_known (b := true) (by decide +kernel) ?_)))
local macro_rules | `(tactic| walk_at "truthy str") => `(tactic| (with_reducible refine truthy_one ?_))
theorem truthy_nil {prog : Program} {w : World} {A : Around} {E : Value → Shared → Prop} {s : Shared} {t : Tok} {Q : Bool → Shared → Prop} (h : Q false { s with toks := s.toks + 1 + 1 }) : wpAny (model prog w) A (truthy (.str Str.empty t)) Q E s :=
  SBL.truthy (by show (0 : Int) < 9223372036854775808; decide) h
theorem truthy_known {prog : Program} {w : World} {A : Around} {E : Value → Shared → Prop} {s : Shared} {x : Str} {t : Tok} {Q : Bool → Shared → Prop} {b : Bool} (h63 : (x.length : Int) < 9223372036854775808) (hb : ((x.length : Int) != 0) = b) (h : Q b { s with toks := s.toks + 1 + 1 }) : wpAny (model prog w) A (truthy (.str x t)) Q E s := by
  subst hb; exact SBL.truthy h63 h
local macro_rules | `(tactic| walk_at "truthy str") => `(tactic| (with_reducible refine truthy_nil ?_))
local macro_rules | `(tactic| walk_at "truthy str") => `(tactic| (refine truthy_known (by omega) (by assumption) ?_))
theorem cat1_len (tok : Str) (c : Nat) : (tok ++ ⟨#[c]⟩ : Str).length = tok.length + 1 := by
  show (tok.cps ++ #[c]).size = _
  simp [Str.length]
/-- the lexer's states -/
inductive Mo where | b | a | s | d
def Mo.txt : Mo → Str | .b => S " " | .a => S "a" | .s => S "'" | .d => S "\""
/-- one token: the signs, whether quoted, what is left, whether the end was met -/
def runT : List Nat → Mo → List Nat → Bool → Option (List Nat × Bool × List Nat × Bool)
  | [], .a, tok, qd => some (tok, qd, [], true)
  | [], _, _, _ => none
  | c :: r, .b, tok, qd => if bareC c = true then runT r .a [c] qd else if c = 39 then runT r .s tok qd else none
  | c :: r, .a, tok, qd => if c = 32 then (if tok = [] ∧ qd = false then none else some (tok, qd, r, false)) else if c = 39 then runT r .s tok qd else if c = 34 then runT r .d tok qd else if bareC c = true then runT r .a (tok ++ [c]) qd else none
  | c :: r, .s, tok, _ => if c = 39 then runT r .a tok true else if okC c = true then runT r .s (tok ++ [c]) true else none
  | c :: r, .d, tok, _ => if c = 34 then runT r .a tok true else if c = 39 then runT r .d (tok ++ [c]) true else none
theorem drop_nil {line : Str} {p : Nat} (h : line.cps.toList.drop p = []) : rd line p = Str.empty ∧ nx line p = (p : Nat) := by
  have h1 : ¬ p < line.length := by
    have := List.drop_eq_nil_iff.mp h
    have e : line.cps.toList.length = line.length := rfl
    omega
  exact ⟨rd_end h1, if_neg h1⟩
theorem drop_cons {line : Str} {p c : Nat} {r : List Nat} (h : line.cps.toList.drop p = c :: r) : p < line.length ∧ rd line p = ⟨#[c]⟩ ∧ nx line p = ((p + 1 : Nat) : Int) ∧ line.cps.toList.drop (p + 1) = r := by
  have e : line.cps.toList.length = line.length := rfl
  have h1 : p < line.length := by
    rcases Nat.lt_or_ge p line.length with h1 | h1
    · exact h1
    · rw [List.drop_eq_nil_iff.mpr (by omega)] at h; cases h
  refine ⟨h1, ?_, if_pos h1, ?_⟩
  · unfold rd; rw [h]; rfl
  · rw [← List.drop_drop, h]; rfl
theorem cat1 (tok : Str) (c : Nat) : (tok ++ ⟨#[c]⟩ : Str).cps.toList = tok.cps.toList ++ [c] := by
  show (tok.cps ++ #[c]).toList = _
  simp
theorem bareC_cases {c : Nat} (h : bareC c = true) : c = 37 ∨ c = 43 ∨ c = 45 ∨ c = 47 ∨ c = 48 ∨ c = 58 ∨ c = 64 ∨ c = 90 ∨ c = 95 ∨ c = 97 := by
  simpa [bareC] using h
theorem bare_facts {c : Nat} (h : bareC c = true) : ((⟨#[c]⟩ : Str) == S "\n") = false ∧ (Builtin.Str.occurrences (S " \t\r\n") ⟨#[c]⟩ 0 (S " \t\r\n").length 1).isEmpty = true ∧ (Builtin.Str.occurrences (S "") ⟨#[c]⟩ 0 (S "").length 1).isEmpty = true ∧
    (Builtin.Str.occurrences (S "\\") ⟨#[c]⟩ 0 (S "\\").length 1).isEmpty = true ∧ (Builtin.Str.occurrences (S "'\"") ⟨#[c]⟩ 0 (S "'\"").length 1).isEmpty = true := by
  rcases bareC_cases h with rfl | rfl | rfl | rfl | rfl | rfl | rfl | rfl | rfl | rfl <;> decide +kernel
theorem ok_facts {c : Nat} (h : okC c = true) (h39 : c ≠ 39) : ((⟨#[c]⟩ : Str) == S "'") = false ∧ (Builtin.Str.occurrences (S "\\") ⟨#[c]⟩ 0 (S "\\").length 1).isEmpty = true := by
  rcases okC_cases h with rfl | rfl | rfl | rfl | rfl | rfl | rfl | rfl | rfl | rfl | rfl | rfl | rfl | rfl | rfl | rfl | rfl | rfl <;> first | exact absurd rfl h39 | decide +kernel
theorem len_ne {tok : Str} (h : tok.cps.toList ≠ []) : ((tok.length : Int) != 0) = true := by
  obtain ⟨⟨l⟩⟩ := tok
  cases l with
  | nil => exact absurd rfl h
  | cons a r => simp [Str.length]; omega
theorem ne_mt {tok : Str} (h : tok.cps.toList ≠ []) : (tok == S "") = false := by
  refine beq_eq_false_iff_ne.mpr fun e => h ?_
  rw [e]
  decide +kernel
theorem apos1 : Str.ofString "'" = ⟨#[39]⟩ := by decide +kernel
theorem news_tl {h₀ h : Heap} {L : Addr} {p : Addr × Obj} {l : List (Addr × Obj)} (N : News h₀ L h (p :: l)) : News h₀ L h l := fun q hq => N q (.tail _ hq)
def RtI (w : World) (s : Shared) (g : Heap) (L1 xs dx ax da q1 q2 : Addr) (k1 k2 k3 t1 t2 : Tok) (line : Str) (k v : Nat → Tok) (wc : Str) (rest : List (Addr × Obj)) (R : List Nat × Bool × List Nat × Bool) (f : Nat) (s₁ : Shared) : Prop :=
  ∃ (mo : Mo) (p : Nat) (t3 ts : Tok) (qd : Bool) (te : Tok) (nc : Option Value) (ln : Int) (tl : Tok) (tok : Str) (tt : Tok) (h : Heap) (tk : Nat), s₁ = { s with heap := h, toks := tk } ∧ p ≤ line.length ∧ line.length - p + 1 ≤ f ∧ tok.length ≤ p ∧
    runT (line.cps.toList.drop p) mo tok.cps.toList qd = some R ∧
    Fr g L1 h (rtM ax qd te nc) ∧ News g L1 h ((xs, instObj 633 dx) :: (dx, sioD w.params k1 k2 k3 t1 t2 t3 line p) :: (ax, instObj 768 da) :: (da, shD w.params k v wc xs q1 q2 (.str mo.txt ts) ln tl tok tt) :: rest)
local macro_rules | `(tactic| walk_at "exec If") => `(tactic| refine wpAny_If ?_)
theorem rt_ok (w : World) (xs dx ax da q1 q2 : Addr) (k1 k2 k3 t1 t2 t3 : Tok) (line : Str) (p : Nat) (k v : Nat → Tok) (wc : Str) (ts : Tok) (ln : Int) (tl : Tok) (tt : Tok) (rest : List (Addr × Obj)) (hl : line.length ≤ 10000)
   (r1 : ∀ q ∈ rest, q.1 ≠ xs) (r2 : ∀ q ∈ rest, q.1 ≠ dx) (r3 : ∀ q ∈ rest, q.1 ≠ ax) (r4 : ∀ q ∈ rest, q.1 ≠ da) (hda : @LT.lt Nat _ da ax) (hax : @LT.lt Nat _ ax dx) (hxd : @LT.lt Nat _ dx xs) (tok' : List Nat) (qd' : Bool) (r' : List Nat) (eof : Bool) (hR : runT (line.cps.toList.drop p) .b [] false = some (tok', qd', r', eof)) (hq : tok' ≠ [] ∨ qd' = true) (hwc : (Builtin.Str.occurrences wc (S "'") 0 wc.length 1).isEmpty = true)
   (p' : Program) (loose : List Str) (mean : ExcName → Option Value) (mg mb : Str → Option Value) (dp un : Nat) (gd : Option (List Code)) (cn : Str) (sc : Scope) (a : Addr) (ccd : Value) (cl : List (Str × Addr)) (outer : List Env) (A₀ : Around) (base h₀ : Heap) (L : Addr) (m : Str → Option Value) (s : Shared) (Q E : Value → Shared → Prop)
    (B : Below A₀ base outer h₀) (F : Fr h₀ L s.heap m) (X : (K w.params).In h₀) (N : News h₀ L s.heap ((xs, instObj 633 dx) :: (dx, sioD w.params k1 k2 k3 t1 t2 t3 line p) :: (ax, instObj 768 da) :: (da, shD w.params k v wc xs q1 q2 (.str (S " ") ts) ln tl (S "") tt) :: rest)) (T : Top p' loose mean mg mb h₀) (hk : sc.kind = .function) (hd : dp + 6 < recursionLimit) (hu : un + 200 < cLine) (hp : p ≤ line.length)
    (hret : ∀ (pe : Nat) t t3' ts' ln' tl' tt' h' tk', pe ≤ line.length → line.cps.toList.drop pe = r' → Fr h₀ L h' m → News h₀ L h' ((xs, instObj 633 dx) :: (dx, sioD w.params k1 k2 k3 t1 t2 t3' line pe) :: (ax, instObj 768 da) :: (da, shD w.params k v wc xs q1 q2 (if eof then .none else .str (S " ") ts') ln' tl' (S "") tt') :: rest) → Q (.str ⟨tok'.toArray⟩ t) { s with heap := h', toks := tk' }) :
    wpAny (model PySem.Challenge.rw_mr0367_01.prog w) (ktrTop dp un gd cn sc L a ccd cl outer) (call (.ref 736) [.ref ax]) Q E s := by
  have n1 : ax ≠ xs := Nat.ne_of_lt (Nat.lt_trans hax hxd)
  have n2 : da ≠ xs := Nat.ne_of_lt (Nat.lt_trans hda (Nat.lt_trans hax hxd))
  have n3 : ax ≠ dx := Nat.ne_of_lt hax
  have n4 : da ≠ dx := Nat.ne_of_lt (Nat.lt_trans hda hax)
  revert X
  k_fill
  intro X
  refine wpAny_call ?_
  k_dflt (refine' enter (binds := [(S "self", .ref ax)]) ?hp ?hb ?hsc ?k1 ?k2 ?k3 ?k4 ?k5 ?kA ?kF ?kK ?k6 ?k7 ?k8 ?k9 ?kB ?_ ?c2 ?c3 ?c4 ?c5; walk_at "my cases"; intro g L1 h1 FG F1 N1 B1 X1 T1; (try dsimp only); (try k_lift B1); (try k_fold))
  walk_at "my steps"
  rename Fr g L1 _ _ => F2
  rename News g L1 _ _ => N2
  refine whl_by (n := line.length - p + 1) (RtI w s g L1 xs dx ax da q1 q2 k1 k2 k3 t1 t2 line k v wc rest (tok', qd', r', eof)) ?turn ?init
  case init =>
    have F5 := rt_fr (nc := none) F2 rfl rfl rfl rfl (by intro y h1 h2 h3 h4; simp [List.lookup, beq_eq_false_iff_ne.mpr h1, beq_eq_false_iff_ne.mpr h2, beq_eq_false_iff_ne.mpr h4, h1, h2, h4])
    have e0 : (S "").cps.toList = [] := by decide +kernel
    have e0l : (S "").length = 0 := by decide +kernel
    exact ⟨.b, p, _, _, _, _, _, _, _, _, _, _, _, rfl, hp, Nat.le_refl _, by rw [e0l]; exact Nat.zero_le _, by rw [e0]; exact hR, F5, N2⟩
  case turn =>
    rintro f s₁ ⟨mo, p, t3, ts, qd, te, nc, ln, tl, tok, tt, h, tk, rfl, hp', hf, htl, hrun, F3, N3⟩
    clear F2 N2
    cases hdr : line.cps.toList.drop p with
    | nil =>
      rw [hdr] at hrun
      obtain ⟨hx, hj⟩ := drop_nil hdr
      cases mo with
      | a =>
        obtain ⟨rfl, rfl, rfl, rfl⟩ : tok.cps.toList = tok' ∧ qd = qd' ∧ [] = r' ∧ true = eof := by simpa [runT] using hrun
        dsimp only [Mo.txt] at N3
        by_cases he : tok.cps.toList = []
        · obtain rfl : qd = true := hq.resolve_left fun z => z he
          obtain rfl : tok = Str.empty := by obtain ⟨⟨l⟩⟩ := tok; cases he; rfl
          walk_at "my steps"
          all_goals (simp only [Bool.false_eq_true, if_true, if_false] at hret; exact hret p _ _ 0 _ _ _ _ _ hp' hdr (by k_asm) (by first | k_asm | exact news_tl (by assumption)))
        · have ht1 : ((tok.length : Int) != 0) = true := len_ne he
          have ht2 : (tok == S "") = false := ne_mt he
          walk_at "my steps"
          all_goals (simp only [Bool.false_eq_true, if_true, if_false] at hret; exact hret p _ _ 0 _ _ _ _ _ hp' hdr (by k_asm) (by first | k_asm | exact news_tl (by assumption)))
      | b => cases hrun
      | s => cases hrun
      | d => cases hrun
    | cons c r =>
      rw [hdr] at hrun
      obtain ⟨hlt, hx, hj, hdr'⟩ := drop_cons hdr
      obtain ⟨f', rfl⟩ : ∃ f', f = f' + 1 := ⟨f - 1, by omega⟩
      cases mo with
      | b =>
        by_cases hb : bareC c = true
        · rw [runT, if_pos hb] at hrun
          obtain ⟨f1, f2, f3, f4, f5⟩ := bare_facts hb
          dsimp only [Mo.txt] at N3
          walk_at "my steps"
          all_goals (
            dsimp only
            rename News g L1 _ _ => N4
            rename Fr g L1 _ _ => F4
            have F5 := rt_fr F4 rfl rfl rfl rfl (by intro y h1 h2 h3 h4; simp [rtM, h1, h2, h3, h4])
            first | exact ⟨f', Nat.lt_succ_self _, .a, p + 1, _, _, _, _, _, _, _, _, _, _, _, rfl, by omega, by omega, by show 1 ≤ p + 1; omega, by rw [hdr']; exact hrun, F5, N4⟩ | exact ⟨f', Nat.lt_succ_self _, .a, p + 1, _, _, _, _, _, _, _, _, _, _, _, rfl, by omega, by omega, by show 1 ≤ p + 1; omega, by rw [hdr']; exact hrun, F5, news_tl N4⟩)
        · by_cases h39 : c = 39
          · subst h39
            have hx : rd line p = S "'" := hx.trans (by decide +kernel)
            rw [runT, if_neg hb, if_pos rfl] at hrun
            dsimp only [Mo.txt] at N3
            walk_at "my steps"
            all_goals (
              dsimp only
              rename News g L1 _ _ => N4
              rename Fr g L1 _ _ => F4
              have F5 := rt_fr F4 rfl rfl rfl rfl (by intro y h1 h2 h3 h4; simp [rtM, h1, h2, h3, h4])
              first | exact ⟨f', Nat.lt_succ_self _, .s, p + 1, _, _, _, _, _, _, _, tok, _, _, _, rfl, by omega, by omega, by omega, by rw [hdr']; exact hrun, F5, N4⟩ | exact ⟨f', Nat.lt_succ_self _, .s, p + 1, _, _, _, _, _, _, _, tok, _, _, _, rfl, by omega, by omega, by omega, by rw [hdr']; exact hrun, F5, news_tl N4⟩)
          · rw [runT, if_neg hb, if_neg h39] at hrun
            cases hrun
      | a =>
        by_cases h32 : c = 32
        · subst h32
          rw [runT, if_pos rfl] at hrun
          split at hrun
          · cases hrun
          · rename ¬ (_ ∧ _) => hnq
            obtain ⟨rfl, rfl, rfl, rfl⟩ : tok.cps.toList = tok' ∧ qd = qd' ∧ r = r' ∧ false = eof := by simpa using hrun
            dsimp only [Mo.txt] at N3
            by_cases he : tok.cps.toList = []
            · obtain rfl : qd = true := hq.resolve_left fun z => z he
              obtain rfl : tok = Str.empty := by obtain ⟨⟨l⟩⟩ := tok; cases he; rfl
              walk_at "my steps"
              all_goals (simp only [Bool.false_eq_true, if_true, if_false] at hret; exact hret (p + 1) _ _ _ _ _ _ _ _ hlt hdr' (by k_asm) (by first | k_asm | exact news_tl (by assumption)))
            · have ht1 : ((tok.length : Int) != 0) = true := len_ne he
              have ht2 : (tok == S "") = false := ne_mt he
              walk_at "my steps"
              all_goals (simp only [Bool.false_eq_true, if_true, if_false] at hret; exact hret (p + 1) _ _ _ _ _ _ _ _ hlt hdr' (by k_asm) (by first | k_asm | exact news_tl (by assumption)))
        · by_cases h39 : c = 39
          · subst h39
            have hx : rd line p = S "'" := hx.trans (by decide +kernel)
            rw [runT, if_neg (by decide), if_pos rfl] at hrun
            dsimp only [Mo.txt] at N3
            walk_at "my steps"
            all_goals (
              dsimp only
              rename News g L1 _ _ => N4
              rename Fr g L1 _ _ => F4
              have F5 := rt_fr F4 rfl rfl rfl rfl (by intro y h1 h2 h3 h4; simp [rtM, h1, h2, h3, h4])
              first | exact ⟨f', Nat.lt_succ_self _, .s, p + 1, _, _, _, _, _, _, _, tok, _, _, _, rfl, by omega, by omega, by omega, by rw [hdr']; exact hrun, F5, N4⟩ | exact ⟨f', Nat.lt_succ_self _, .s, p + 1, _, _, _, _, _, _, _, tok, _, _, _, rfl, by omega, by omega, by omega, by rw [hdr']; exact hrun, F5, news_tl N4⟩)
          · by_cases h34 : c = 34
            · subst h34
              have hx : rd line p = S "\"" := hx.trans (by decide +kernel)
              rw [runT, if_neg (by decide), if_neg (by decide), if_pos rfl] at hrun
              dsimp only [Mo.txt] at N3
              walk_at "my steps"
              all_goals (
                dsimp only
                rename News g L1 _ _ => N4
                rename Fr g L1 _ _ => F4
                have F5 := rt_fr F4 rfl rfl rfl rfl (by intro y h1 h2 h3 h4; simp [rtM, h1, h2, h3, h4])
                first | exact ⟨f', Nat.lt_succ_self _, .d, p + 1, _, _, _, _, _, _, _, tok, _, _, _, rfl, by omega, by omega, by omega, by rw [hdr']; exact hrun, F5, N4⟩ | exact ⟨f', Nat.lt_succ_self _, .d, p + 1, _, _, _, _, _, _, _, tok, _, _, _, rfl, by omega, by omega, by omega, by rw [hdr']; exact hrun, F5, news_tl N4⟩)
            · by_cases hb : bareC c = true
              · rw [runT, if_neg h32, if_neg h39, if_neg h34, if_pos hb] at hrun
                obtain ⟨f1, f2, f3, f4, f5⟩ := bare_facts hb
                dsimp only [Mo.txt] at N3
                walk_at "my steps"
                all_goals (
                  dsimp only
                  rename News g L1 _ _ => N4
                  rename Fr g L1 _ _ => F4
                  have F5 := rt_fr F4 rfl rfl rfl rfl (by intro y h1 h2 h3 h4; simp [rtM, h1, h2, h3, h4])
                  first | exact ⟨f', Nat.lt_succ_self _, .a, p + 1, _, _, _, _, _, _, _, _, _, _, _, rfl, by omega, by omega, by first | (rw [cat1_len]; omega) | (rw [apos1, cat1_len]; omega), by first | (rw [hdr', cat1]; exact hrun) | (rw [hdr', apos1, cat1]; exact hrun), F5, N4⟩ | exact ⟨f', Nat.lt_succ_self _, .a, p + 1, _, _, _, _, _, _, _, _, _, _, _, rfl, by omega, by omega, by first | (rw [cat1_len]; omega) | (rw [apos1, cat1_len]; omega), by first | (rw [hdr', cat1]; exact hrun) | (rw [hdr', apos1, cat1]; exact hrun), F5, news_tl N4⟩)
              · rw [runT, if_neg h32, if_neg h39, if_neg h34, if_neg hb] at hrun
                cases hrun
      | s =>
        by_cases h39 : c = 39
        · subst h39
          rw [runT, if_pos rfl] at hrun
          dsimp only [Mo.txt] at N3
          walk_at "my steps"
          all_goals (
            dsimp only
            rename News g L1 _ _ => N4
            rename Fr g L1 _ _ => F4
            have F5 := rt_fr F4 rfl rfl rfl rfl (by intro y h1 h2 h3 h4; simp [rtM, h1, h2, h3, h4])
            first | exact ⟨f', Nat.lt_succ_self _, .a, p + 1, _, _, _, _, _, _, _, tok, _, _, _, rfl, by omega, by omega, by omega, by rw [hdr']; exact hrun, F5, N4⟩ | exact ⟨f', Nat.lt_succ_self _, .a, p + 1, _, _, _, _, _, _, _, tok, _, _, _, rfl, by omega, by omega, by omega, by rw [hdr']; exact hrun, F5, news_tl N4⟩)
        · by_cases hb : okC c = true
          · rw [runT, if_neg h39, if_pos hb] at hrun
            obtain ⟨f1, f2⟩ := ok_facts hb h39
            dsimp only [Mo.txt] at N3
            walk_at "my steps"
            all_goals (
              dsimp only
              rename News g L1 _ _ => N4
              rename Fr g L1 _ _ => F4
              have F5 := rt_fr F4 rfl rfl rfl rfl (by intro y h1 h2 h3 h4; simp [rtM, h1, h2, h3, h4])
              first | exact ⟨f', Nat.lt_succ_self _, .s, p + 1, _, _, _, _, _, _, _, _, _, _, _, rfl, by omega, by omega, by first | (rw [cat1_len]; omega) | (rw [apos1, cat1_len]; omega), by first | (rw [hdr', cat1]; exact hrun) | (rw [hdr', apos1, cat1]; exact hrun), F5, N4⟩ | exact ⟨f', Nat.lt_succ_self _, .s, p + 1, _, _, _, _, _, _, _, _, _, _, _, rfl, by omega, by omega, by first | (rw [cat1_len]; omega) | (rw [apos1, cat1_len]; omega), by first | (rw [hdr', cat1]; exact hrun) | (rw [hdr', apos1, cat1]; exact hrun), F5, news_tl N4⟩)
          · rw [runT, if_neg h39, if_neg hb] at hrun
            cases hrun
      | d =>
        by_cases h34 : c = 34
        · subst h34
          rw [runT, if_pos rfl] at hrun
          dsimp only [Mo.txt] at N3
          walk_at "my steps"
          all_goals (
            dsimp only
            rename News g L1 _ _ => N4
            rename Fr g L1 _ _ => F4
            have F5 := rt_fr F4 rfl rfl rfl rfl (by intro y h1 h2 h3 h4; simp [rtM, h1, h2, h3, h4])
            first | exact ⟨f', Nat.lt_succ_self _, .a, p + 1, _, _, _, _, _, _, _, tok, _, _, _, rfl, by omega, by omega, by omega, by rw [hdr']; exact hrun, F5, N4⟩ | exact ⟨f', Nat.lt_succ_self _, .a, p + 1, _, _, _, _, _, _, _, tok, _, _, _, rfl, by omega, by omega, by omega, by rw [hdr']; exact hrun, F5, news_tl N4⟩)
        · by_cases h39 : c = 39
          · subst h39
            rw [runT, if_neg (by decide), if_pos rfl] at hrun
            dsimp only [Mo.txt] at N3
            walk_at "my steps"
            all_goals (
              dsimp only
              rename News g L1 _ _ => N4
              rename Fr g L1 _ _ => F4
              have F5 := rt_fr F4 rfl rfl rfl rfl (by intro y h1 h2 h3 h4; simp [rtM, h1, h2, h3, h4])
              first | exact ⟨f', Nat.lt_succ_self _, .d, p + 1, _, _, _, _, _, _, _, _, _, _, _, rfl, by omega, by omega, by first | (rw [cat1_len]; omega) | (rw [apos1, cat1_len]; omega), by first | (rw [hdr', cat1]; exact hrun) | (rw [hdr', apos1, cat1]; exact hrun), F5, N4⟩ | exact ⟨f', Nat.lt_succ_self _, .d, p + 1, _, _, _, _, _, _, _, _, _, _, _, rfl, by omega, by omega, by first | (rw [cat1_len]; omega) | (rw [apos1, cat1_len]; omega), by first | (rw [hdr', cat1]; exact hrun) | (rw [hdr', apos1, cat1]; exact hrun), F5, news_tl N4⟩)
          · rw [runT, if_neg h34, if_neg h39] at hrun
            cases hrun
end
section
local macro_rules | `(tactic| walk_at "my steps") => `(tactic| repeat' ((fail_if_success (with_reducible show wpAny _ _ (exec (Stmt.While _ _ _ _) _) _ _ _)); (first | (k_unfold; (try dsimp only)) | (k_end; wrow_close) | walk1 | (dsimp only; walk1) | (leave1; walk_say "STEP leave1"; try dsimp only) | fail "no step")))
local macro_rules | `(tactic| k_all) => `(tactic| assumption)
local macro_rules | `(tactic| walk_at "getAttr ref") => `(tactic| (k_here; (with_reducible show wpAny _ _ (getAttr (Value.ref _) (Str.ofString "punctuation_chars") _) _ _ _); k_dflt (refine' punc_get ?k1 ?k2 ?k3 ?k4 ?k5 ?kK ?kd ?ku ?q1 ?q2 ?_; (case k1 => k_asm); (case k2 => k_asm); (case k3 => k_asm); (case k4 => k_asm); (case k5 => k_asm); (case kK => first | exact rfl | assumption); (case kd => ktr_room); (case ku => ktr_units); (case q1 => k_mem); (case q2 => k_mem); k_whole; intro h9 tk9 F9 N9; (try dsimp only); (try k_fold))))
local macro_rules | `(tactic| walk_at "call ref") => `(tactic| (k_here; (with_reducible show wpAny _ _ (call (Value.ref 579) _) _ _ _); k_dflt (refine' read_x ?hx ?hj ?k1 ?k2 ?k3 ?k4 ?k5 ?kK ?kd ?ku ?hl ?n1 ?n2 ?n3 ?hp ?_; (case k1 => k_asm); (case k2 => k_asm); (case k3 => k_asm); (case k4 => k_asm); (case k5 => k_asm); (case hx => assumption); (case hj => assumption); (case kK => first | exact rfl | assumption); (case kd => ktr_room); (case ku => ktr_units); (case hl => assumption); (case n1 => exact ne2 (by assumption) (by assumption) (by assumption)); (case n2 => exact ne2 (by assumption) (by assumption) (by assumption)); (case n3 => assumption); (case hp => assumption); k_whole; intro t9 t8 h9 tk9 F9 N9; (try dsimp only); (try k_fold))))
local macro_rules | `(tactic| walk_at "compareOp In str str") => `(tactic| (first | refine in_no (by first | assumption | decide +kernel) ?_ | refine in_yes (by first | assumption | decide +kernel) ?_))
local macro_rules | `(tactic| walk_at "compareOp Eq str str") => `(tactic| ((first | refine eq_known (by assumption) ?_ | refine eq_known (b := false) (by decide +kernel) ?_ | refine eq_known (b := true) (by decide +kernel) ?_)))
local macro_rules | `(tactic| walk_at "truthy str") => `(tactic| (with_reducible refine truthy_one ?_))
local macro_rules | `(tactic| walk_at "truthy str") => `(tactic| (with_reducible refine truthy_nil ?_))
local macro_rules | `(tactic| walk_at "truthy str") => `(tactic| (refine truthy_known (by omega) (by assumption) ?_))
local macro_rules | `(tactic| walk_at "exec If") => `(tactic| refine wpAny_If ?_)
theorem rt_none (w : World) (xs dx ax da q1 q2 : Addr) (k1 k2 k3 t1 t2 t3 : Tok) (line : Str) (p : Nat) (k v : Nat → Tok) (wc : Str) (ln : Int) (tl : Tok) (tt : Tok) (rest : List (Addr × Obj)) (hl : line.length ≤ 10000)
   (r1 : ∀ q ∈ rest, q.1 ≠ xs) (r2 : ∀ q ∈ rest, q.1 ≠ dx) (r3 : ∀ q ∈ rest, q.1 ≠ ax) (r4 : ∀ q ∈ rest, q.1 ≠ da) (hda : @LT.lt Nat _ da ax) (hax : @LT.lt Nat _ ax dx) (hxd : @LT.lt Nat _ dx xs) (hdr : line.cps.toList.drop p = [])
   (p' : Program) (loose : List Str) (mean : ExcName → Option Value) (mg mb : Str → Option Value) (dp un : Nat) (gd : Option (List Code)) (cn : Str) (sc : Scope) (a : Addr) (ccd : Value) (cl : List (Str × Addr)) (outer : List Env) (A₀ : Around) (base h₀ : Heap) (L : Addr) (m : Str → Option Value) (s : Shared) (Q E : Value → Shared → Prop)
    (B : Below A₀ base outer h₀) (F : Fr h₀ L s.heap m) (X : (K w.params).In h₀) (N : News h₀ L s.heap ((xs, instObj 633 dx) :: (dx, sioD w.params k1 k2 k3 t1 t2 t3 line p) :: (ax, instObj 768 da) :: (da, shD w.params k v wc xs q1 q2 .none ln tl (S "") tt) :: rest)) (T : Top p' loose mean mg mb h₀) (hk : sc.kind = .function) (hd : dp + 6 < recursionLimit) (hu : un + 200 < cLine) (hp : p ≤ line.length)
    (hret : ∀ t3' tt' h' tk', Fr h₀ L h' m → News h₀ L h' ((xs, instObj 633 dx) :: (dx, sioD w.params k1 k2 k3 t1 t2 t3' line p) :: (ax, instObj 768 da) :: (da, shD w.params k v wc xs q1 q2 .none ln tl (S "") tt') :: rest) → Q .none { s with heap := h', toks := tk' }) :
    wpAny (model PySem.Challenge.rw_mr0367_01.prog w) (ktrTop dp un gd cn sc L a ccd cl outer) (call (.ref 736) [.ref ax]) Q E s := by
  have n1 : ax ≠ xs := Nat.ne_of_lt (Nat.lt_trans hax hxd)
  have n2 : da ≠ xs := Nat.ne_of_lt (Nat.lt_trans hda (Nat.lt_trans hax hxd))
  have n3 : ax ≠ dx := Nat.ne_of_lt hax
  have n4 : da ≠ dx := Nat.ne_of_lt (Nat.lt_trans hda hax)
  obtain ⟨hx, hj⟩ := drop_nil hdr
  revert X
  k_fill
  intro X
  refine wpAny_call ?_
  k_dflt (refine' enter (binds := [(S "self", .ref ax)]) ?hp ?hb ?hsc ?k1 ?k2 ?k3 ?k4 ?k5 ?kA ?kF ?kK ?k6 ?k7 ?k8 ?k9 ?kB ?_ ?c2 ?c3 ?c4 ?c5; walk_at "my cases"; intro g L1 h1 FG F1 N1 B1 X1 T1; (try dsimp only); (try k_lift B1); (try k_fold))
  walk_at "my steps"
  refine whl_by (n := 0) (fun _ s₁ => s₁ = _) ?turn rfl
  rintro f _ rfl
  walk_at "my steps"
  all_goals exact hret _ _ _ _ (by k_asm) (by k_asm)
theorem dq_at {h₀ h : Heap} {L : Addr} {news : List (Addr × Obj)} {q : Addr} (N : News h₀ L h news) (hm : (q, deqObj) ∈ news) : h.get? q = some deqObj := (N _ hm).1
local macro_rules | `(tactic| walk_at "truthy ref") => `(tactic| (refine dq_truthy (dq_at (by k_asm) (by exact .tail _ (.tail _ (.tail _ (.tail _ (by assumption)))))) ?_))
theorem get_ok (w : World) (xs dx ax da q1 q2 : Addr) (k1 k2 k3 t1 t2 t3 : Tok) (line : Str) (p : Nat) (k v : Nat → Tok) (wc : Str) (ts : Tok) (ln : Int) (tl : Tok) (tt : Tok) (rest : List (Addr × Obj)) (hl : line.length ≤ 10000) (hq1 : (q1, deqObj) ∈ rest) (hq2 : (q2, deqObj) ∈ rest)
   (r1 : ∀ q ∈ rest, q.1 ≠ xs) (r2 : ∀ q ∈ rest, q.1 ≠ dx) (r3 : ∀ q ∈ rest, q.1 ≠ ax) (r4 : ∀ q ∈ rest, q.1 ≠ da) (hda : @LT.lt Nat _ da ax) (hax : @LT.lt Nat _ ax dx) (hxd : @LT.lt Nat _ dx xs) (tok' : List Nat) (qd' : Bool) (r' : List Nat) (eof : Bool) (hR : runT (line.cps.toList.drop p) .b [] false = some (tok', qd', r', eof)) (hq : tok' ≠ [] ∨ qd' = true) (hwc : (Builtin.Str.occurrences wc (S "'") 0 wc.length 1).isEmpty = true)
   (p' : Program) (loose : List Str) (mean : ExcName → Option Value) (mg mb : Str → Option Value) (dp un : Nat) (gd : Option (List Code)) (cn : Str) (sc : Scope) (a : Addr) (ccd : Value) (cl : List (Str × Addr)) (outer : List Env) (A₀ : Around) (base h₀ : Heap) (L : Addr) (m : Str → Option Value) (s : Shared) (Q E : Value → Shared → Prop)
    (B : Below A₀ base outer h₀) (F : Fr h₀ L s.heap m) (X : (K w.params).In h₀) (N : News h₀ L s.heap ((xs, instObj 633 dx) :: (dx, sioD w.params k1 k2 k3 t1 t2 t3 line p) :: (ax, instObj 768 da) :: (da, shD w.params k v wc xs q1 q2 (.str (S " ") ts) ln tl (S "") tt) :: rest)) (T : Top p' loose mean mg mb h₀) (hk : sc.kind = .function) (hd : dp + 8 < recursionLimit) (hu : un + 220 < cLine) (hp : p ≤ line.length)
    (hret : ∀ (pe : Nat) t t3' ts' ln' tl' tt' h' tk', pe ≤ line.length → line.cps.toList.drop pe = r' → Fr h₀ L h' m → News h₀ L h' ((xs, instObj 633 dx) :: (dx, sioD w.params k1 k2 k3 t1 t2 t3' line pe) :: (ax, instObj 768 da) :: (da, shD w.params k v wc xs q1 q2 (if eof then .none else .str (S " ") ts') ln' tl' (S "") tt') :: rest) → Q (.str ⟨tok'.toArray⟩ t) { s with heap := h', toks := tk' }) :
    wpAny (model PySem.Challenge.rw_mr0367_01.prog w) (ktrTop dp un gd cn sc L a ccd cl outer) (call (.ref 729) [.ref ax]) Q E s := by
  revert X
  k_fill
  intro X
  refine wpAny_call ?_
  k_dflt (refine' enter (binds := [(S "self", .ref ax)]) ?hp ?hb ?hsc ?k1 ?k2 ?k3 ?k4 ?k5 ?kA ?kF ?kK ?k6 ?k7 ?k8 ?k9 ?kB ?_ ?c2 ?c3 ?c4 ?c5; walk_at "my cases"; intro g L1 h1 FG F1 N1 B1 X1 T1; (try dsimp only); (try k_lift B1); (try k_fold))
  walk_at "my steps"
  refine rt_ok w xs dx ax da q1 q2 k1 k2 k3 t1 t2 t3 line p k v wc ts ln tl tt rest hl r1 r2 r3 r4 hda hax hxd tok' qd' r' eof hR hq hwc _ _ _ _ _ _ _ _ _ _ _ _ _ _ _ _ _ _ _ _ _ _ (by k_asm) (by k_asm) (by k_asm) (by k_asm) (by k_asm) rfl (by ktr_room) (by ktr_units) hp ?_
  intro pe t t3' ts' ln' tl' tt' h9 tk9 hpe hdr F9 N9
  (try dsimp only); (try k_fold)
  walk_at "my steps"
  refine whl_by (n := 0) (fun _ s₁ => s₁ = _) ?turn rfl
  rintro f _ rfl
  walk_at "my steps"
  all_goals exact hret pe _ _ _ _ _ _ _ _ hpe hdr (by k_asm) (by k_asm)
theorem get_none (w : World) (xs dx ax da q1 q2 : Addr) (k1 k2 k3 t1 t2 t3 : Tok) (line : Str) (p : Nat) (k v : Nat → Tok) (wc : Str) (ln : Int) (tl : Tok) (tt : Tok) (rest : List (Addr × Obj)) (hl : line.length ≤ 10000) (hq1 : (q1, deqObj) ∈ rest) (hq2 : (q2, deqObj) ∈ rest)
   (r1 : ∀ q ∈ rest, q.1 ≠ xs) (r2 : ∀ q ∈ rest, q.1 ≠ dx) (r3 : ∀ q ∈ rest, q.1 ≠ ax) (r4 : ∀ q ∈ rest, q.1 ≠ da) (hda : @LT.lt Nat _ da ax) (hax : @LT.lt Nat _ ax dx) (hxd : @LT.lt Nat _ dx xs) (hdr : line.cps.toList.drop p = [])
   (p' : Program) (loose : List Str) (mean : ExcName → Option Value) (mg mb : Str → Option Value) (dp un : Nat) (gd : Option (List Code)) (cn : Str) (sc : Scope) (a : Addr) (ccd : Value) (cl : List (Str × Addr)) (outer : List Env) (A₀ : Around) (base h₀ : Heap) (L : Addr) (m : Str → Option Value) (s : Shared) (Q E : Value → Shared → Prop)
    (B : Below A₀ base outer h₀) (F : Fr h₀ L s.heap m) (X : (K w.params).In h₀) (N : News h₀ L s.heap ((xs, instObj 633 dx) :: (dx, sioD w.params k1 k2 k3 t1 t2 t3 line p) :: (ax, instObj 768 da) :: (da, shD w.params k v wc xs q1 q2 Value.none ln tl (S "") tt) :: rest)) (T : Top p' loose mean mg mb h₀) (hk : sc.kind = .function) (hd : dp + 8 < recursionLimit) (hu : un + 220 < cLine) (hp : p ≤ line.length)
    (hret : ∀ t3' tt' h' tk', Fr h₀ L h' m → News h₀ L h' ((xs, instObj 633 dx) :: (dx, sioD w.params k1 k2 k3 t1 t2 t3' line p) :: (ax, instObj 768 da) :: (da, shD w.params k v wc xs q1 q2 .none ln tl (S "") tt') :: rest) → Q .none { s with heap := h', toks := tk' }) :
    wpAny (model PySem.Challenge.rw_mr0367_01.prog w) (ktrTop dp un gd cn sc L a ccd cl outer) (call (.ref 729) [.ref ax]) Q E s := by
  revert X
  k_fill
  intro X
  refine wpAny_call ?_
  k_dflt (refine' enter (binds := [(S "self", .ref ax)]) ?hp ?hb ?hsc ?k1 ?k2 ?k3 ?k4 ?k5 ?kA ?kF ?kK ?k6 ?k7 ?k8 ?k9 ?kB ?_ ?c2 ?c3 ?c4 ?c5; walk_at "my cases"; intro g L1 h1 FG F1 N1 B1 X1 T1; (try dsimp only); (try k_lift B1); (try k_fold))
  walk_at "my steps"
  refine rt_none w xs dx ax da q1 q2 k1 k2 k3 t1 t2 t3 line p k v wc ln tl tt rest hl r1 r2 r3 r4 hda hax hxd hdr _ _ _ _ _ _ _ _ _ _ _ _ _ _ _ _ _ _ _ _ _ _ (by k_asm) (by k_asm) (by k_asm) (by k_asm) (by k_asm) rfl (by ktr_room) (by ktr_units) hp ?_
  intro t3' tt' h9 tk9 F9 N9
  (try dsimp only); (try k_fold)
  walk_at "my steps"
  refine whl_by (n := 0) (fun _ s₁ => s₁ = _) ?turn rfl
  rintro f _ rfl
  walk_at "my steps"
  all_goals exact hret _ _ _ _ (by k_asm) (by k_asm)
theorem next_ok (w : World) (xs dx ax da q1 q2 : Addr) (k1 k2 k3 t1 t2 t3 : Tok) (line : Str) (p : Nat) (k v : Nat → Tok) (wc : Str) (ts : Tok) (ln : Int) (tl : Tok) (tt : Tok) (rest : List (Addr × Obj)) (hl : line.length ≤ 10000) (hq1 : (q1, deqObj) ∈ rest) (hq2 : (q2, deqObj) ∈ rest)
   (r1 : ∀ q ∈ rest, q.1 ≠ xs) (r2 : ∀ q ∈ rest, q.1 ≠ dx) (r3 : ∀ q ∈ rest, q.1 ≠ ax) (r4 : ∀ q ∈ rest, q.1 ≠ da) (hda : @LT.lt Nat _ da ax) (hax : @LT.lt Nat _ ax dx) (hxd : @LT.lt Nat _ dx xs) (tok' : List Nat) (qd' : Bool) (r' : List Nat) (eof : Bool) (hR : runT (line.cps.toList.drop p) .b [] false = some (tok', qd', r', eof)) (hq : tok' ≠ [] ∨ qd' = true) (hwc : (Builtin.Str.occurrences wc (S "'") 0 wc.length 1).isEmpty = true)
   (p' : Program) (loose : List Str) (mean : ExcName → Option Value) (mg mb : Str → Option Value) (dp un : Nat) (gd : Option (List Code)) (cn : Str) (sc : Scope) (a : Addr) (ccd : Value) (cl : List (Str × Addr)) (outer : List Env) (A₀ : Around) (base h₀ : Heap) (L : Addr) (m : Str → Option Value) (s : Shared) (Q E : Value → Shared → Prop)
    (B : Below A₀ base outer h₀) (F : Fr h₀ L s.heap m) (X : (K w.params).In h₀) (N : News h₀ L s.heap ((xs, instObj 633 dx) :: (dx, sioD w.params k1 k2 k3 t1 t2 t3 line p) :: (ax, instObj 768 da) :: (da, shD w.params k v wc xs q1 q2 (.str (S " ") ts) ln tl (S "") tt) :: rest)) (T : Top p' loose mean mg mb h₀) (hk : sc.kind = .function) (hd : dp + 10 < recursionLimit) (hu : un + 240 < cLine) (hp : p ≤ line.length)
    (hret : ∀ (pe : Nat) t t3' ts' ln' tl' tt' h' tk', pe ≤ line.length → line.cps.toList.drop pe = r' → Fr h₀ L h' m → News h₀ L h' ((xs, instObj 633 dx) :: (dx, sioD w.params k1 k2 k3 t1 t2 t3' line pe) :: (ax, instObj 768 da) :: (da, shD w.params k v wc xs q1 q2 (if eof then .none else .str (S " ") ts') ln' tl' (S "") tt') :: rest) → Q (.str ⟨tok'.toArray⟩ t) { s with heap := h', toks := tk' }) :
    wpAny (model PySem.Challenge.rw_mr0367_01.prog w) (ktrTop dp un gd cn sc L a ccd cl outer) (call (.ref 765) [.ref ax]) Q E s := by
  revert X
  k_fill
  intro X
  refine wpAny_call ?_
  k_dflt (refine' enter (binds := [(S "self", .ref ax)]) ?hp ?hb ?hsc ?k1 ?k2 ?k3 ?k4 ?k5 ?kA ?kF ?kK ?k6 ?k7 ?k8 ?k9 ?kB ?_ ?c2 ?c3 ?c4 ?c5; walk_at "my cases"; intro g L1 h1 FG F1 N1 B1 X1 T1; (try dsimp only); (try k_lift B1); (try k_fold))
  walk_at "my steps"
  refine get_ok w xs dx ax da q1 q2 k1 k2 k3 t1 t2 t3 line p k v wc ts ln tl tt rest hl hq1 hq2 r1 r2 r3 r4 hda hax hxd tok' qd' r' eof hR hq hwc _ _ _ _ _ _ _ _ _ _ _ _ _ _ _ _ _ _ _ _ _ _ (by k_asm) (by k_asm) (by k_asm) (by k_asm) (by k_asm) rfl (by ktr_room) (by ktr_units) hp ?_
  intro pe t t3' ts' ln' tl' tt' h9 tk9 hpe hdr F9 N9
  (try dsimp only); (try k_fold)
  walk_at "my steps"
  all_goals exact hret pe _ _ _ _ _ _ _ _ hpe hdr (by k_asm) (by k_asm)
theorem owit_stopS {M : Model} {A A₀ : Around} {E : Value → Shared → Prop} {s : Shared} {base g G : Heap} {Q : Option Value → Shared → Prop} {outer : List Env} {L a e t : Addr} {m : Str → Option Value} {name : Str} {scope : Scope} {cd : Value} {vs : List Value} {news : List (Addr × Obj)} {X : String}
    (R : RaisedS base G (envOf name scope L a cd :: outer) e (.type X) t vs news s.heap) (hsm : G.UpToSlots s.heap) (F : Fr g L G m) (K : Below A₀ base outer g) (hsub : isSubtype (.type X) (.type "StopIteration") = pure true)
    (k : ∀ g', KtsTurn (outer.filterMap (·.frame)) g g' → Below A₀ base outer g' → Fr g' L s.heap m → News g' L s.heap news → Q none s) : OwitStop M A Q E (.ref e) s := by
  obtain ⟨⟨B, hB, hBG, hl, hfl, hnew⟩, htup⟩ := R
  have hL : B.get? L = none := by
    obtain ⟨_, ⟨L', _, hf, hn', _⟩, _⟩ := hfl.2.2.1
    obtain rfl : L = L' := Option.some.inj hf
    exact hn'
  obtain ⟨g', T, F', K'⟩ := kts_ground K F hBG hfl.1 hsm
  obtain ⟨ob, hob, hobc⟩ := hfl.there
  have hT : s.TypeIs (.ref e) X := (show ∃ o, s.heap.get? e = some o ∧ o.cls = .type X from ⟨ob, hob, hobc⟩)
  unfold OwitStop
  refine wpAny_isInstance hT hsub ?_
  show (if true = true then Q none s else E (.ref e) s)
  rw [if_pos rfl]
  exact k g' T K' F' fun q hq => ⟨hfl.1 _ _ (hl q hq).1, (fun z => by have := (hl q hq).1; rw [z, hL] at this; cases this), T.none_ _ (kts_none F.keep (hl q hq).2.1)⟩
local macro_rules | `(tactic| walk_at "my raise") => `(tactic| repeat' ((fail_if_success (with_reducible show wpAny _ _ (leaving _ _) _ _ _)); (first | (k_unfold; (try dsimp only)) | (k_end; wrow_close) | walk1 | (dsimp only; walk1) | (leave1; walk_say "STEP leave1"; try dsimp only) | fail "no step")))
theorem next_stop (w : World) (xs dx ax da q1 q2 : Addr) (k1 k2 k3 t1 t2 t3 : Tok) (line : Str) (p : Nat) (k v : Nat → Tok) (wc : Str) (ln : Int) (tl : Tok) (tt : Tok) (rest : List (Addr × Obj)) (hl : line.length ≤ 10000) (hq1 : (q1, deqObj) ∈ rest) (hq2 : (q2, deqObj) ∈ rest)
   (r1 : ∀ q ∈ rest, q.1 ≠ xs) (r2 : ∀ q ∈ rest, q.1 ≠ dx) (r3 : ∀ q ∈ rest, q.1 ≠ ax) (r4 : ∀ q ∈ rest, q.1 ≠ da) (hda : @LT.lt Nat _ da ax) (hax : @LT.lt Nat _ ax dx) (hxd : @LT.lt Nat _ dx xs) (hdr : line.cps.toList.drop p = [])
   (p' : Program) (loose : List Str) (mean : ExcName → Option Value) (mg mb : Str → Option Value) (dp un : Nat) (gd : Option (List Code)) (cn : Str) (sc : Scope) (a : Addr) (ccd : Value) (outer : List Env) (A₀ : Around) (base h₀ : Heap) (L : Addr) (m : Str → Option Value) (s : Shared) (Q : Option Value → Shared → Prop) (Qv E : Value → Shared → Prop)
    (B : Below A₀ base outer h₀) (F : Fr h₀ L s.heap m) (X : (K w.params).In h₀) (N : News h₀ L s.heap ((xs, instObj 633 dx) :: (dx, sioD w.params k1 k2 k3 t1 t2 t3 line p) :: (ax, instObj 768 da) :: (da, shD w.params k v wc xs q1 q2 Value.none ln tl (S "") tt) :: rest)) (T : Top p' loose mean mg mb h₀) (hk : sc.kind = .function) (hd : dp + 10 < recursionLimit) (hu : un + 240 < cLine) (hp : p ≤ line.length)
    (hret : ∀ g' t3' tt' h' tk', KtsTurn (outer.filterMap (·.frame)) h₀ g' → Below A₀ base outer g' → Fr g' L h' m → News g' L h' ((xs, instObj 633 dx) :: (dx, sioD w.params k1 k2 k3 t1 t2 t3' line p) :: (ax, instObj 768 da) :: (da, shD w.params k v wc xs q1 q2 .none ln tl (S "") tt') :: rest) → Q none { s with heap := h', toks := tk' }) :
    wpAny (model PySem.Challenge.rw_mr0367_01.prog w) (ktrTop dp un gd cn sc L a ccd [] outer) (call (.ref 765) [.ref ax]) Qv (OwitStop (model PySem.Challenge.rw_mr0367_01.prog w) (ktrTop dp un gd cn sc L a ccd [] outer) Q E) s := by
  revert X
  k_fill
  intro X
  refine wpAny_call ?_
  k_dflt (refine' enter (binds := [(S "self", .ref ax)]) ?hp ?hb ?hsc ?k1 ?k2 ?k3 ?k4 ?k5 ?kA ?kF ?kK ?k6 ?k7 ?k8 ?k9 ?kB ?_ ?c2 ?c3 ?c4 ?c5; walk_at "my cases"; intro g L1 h1 FG F1 N1 B1 X1 T1; (try dsimp only); (try k_lift B1); (try k_fold))
  walk_at "my steps"
  refine get_none w xs dx ax da q1 q2 k1 k2 k3 t1 t2 t3 line p k v wc ln tl tt rest hl hq1 hq2 r1 r2 r3 r4 hda hax hxd hdr _ _ _ _ _ _ _ _ _ _ _ _ _ _ _ _ _ _ _ _ _ _ (by k_asm) (by k_asm) (by k_asm) (by k_asm) (by k_asm) rfl (by ktr_room) (by ktr_units) hp ?_
  intro t3' tt' h9 tk9 F9 N9
  (try dsimp only); (try k_fold)
  walk_at "my raise"
  rename Heap.MadeExc _ _ _ _ _ => hmx
  rename Fr g L1 _ _ => F4
  rename News g L1 _ _ => N4
  k_unfold
  dsimp only
  refine leave_raiseS B1 (Heap.MadeExc.of hmx) F4 N4 ?_
  intro h5 t5 RS RK U5
  dsimp only
  refine owit_stopS RS U5 FG B (by first | rfl | kernel_rfl | decide) ?_
  intro g' KT B' F' N'
  exact hret g' _ _ _ _ KT B' F' N'
/-- the whole line: its words -/
inductive Lx : Bool → List Nat → List (List Nat) → Prop where
  | done : Lx true [] []
  | more {l tok r : List Nat} {qd e : Bool} {ws : List (List Nat)} : runT l .b [] false = some (tok, qd, r, e) → (tok ≠ [] ∨ qd = true) → Lx e r ws → Lx false l (tok :: ws)
abbrev lstO (acc : Array Value) (c : Nat) : Obj := { cls := .type "list", data := .seq acc c }
theorem upd_led {h₀ h : Heap} {L S : Addr} {m : Str → Option Value} {o : Obj} {news : List (Addr × Obj)} (f : Obj → Obj) (F : Fr h₀ L h m) (N : News h₀ L h news) (hm : (S, o) ∈ news) (hf : (f o).isFreed = false) :
    Fr h₀ L (h.update S f) m ∧ News h₀ L (h.update S f) (put S (f o) news) :=
  ⟨F.update N hm (Heap.SameBut.update ..), N.update hm (Heap.SameBut.update ..) (Heap.get?_update_self f (N _ hm).1 hf)⟩
inductive Txts : List Value → List (List Nat) → Prop where
  | nil : Txts [] []
  | cons {c : List Nat} {t : Tok} {vs : List Value} {ws : List (List Nat)} : Txts vs ws → Txts (.str ⟨c.toArray⟩ t :: vs) (c :: ws)
theorem Txts.snoc {vs : List Value} {ws : List (List Nat)} (h : Txts vs ws) (c : List Nat) (t : Tok) : Txts (vs ++ [.str ⟨c.toArray⟩ t]) (ws ++ [c]) := by
  induction h with
  | nil => exact .cons .nil
  | cons _ ih => exact .cons ih
theorem ne1 {a x : Addr} {o : Obj} {rest : List (Addr × Obj)} (h1 : a ≠ x) (h : ∀ q ∈ rest, q.1 ≠ x) : ∀ q ∈ (a, o) :: rest, q.1 ≠ x := by
  intro q hq
  rcases List.mem_cons.mp hq with rfl | hq
  · exact h1
  · exact h q hq
theorem put_at4 {a1 a2 a3 a4 lS : Addr} {o1 o2 o3 o4 o o' : Obj} {rest : List (Addr × Obj)} (h1 : lS ≠ a1) (h2 : lS ≠ a2) (h3 : lS ≠ a3) (h4 : lS ≠ a4) (r : ∀ q ∈ rest, q.1 ≠ lS) :
    put lS o' ((a1, o1) :: (a2, o2) :: (a3, o3) :: (a4, o4) :: (lS, o) :: rest) = (a1, o1) :: (a2, o2) :: (a3, o3) :: (a4, o4) :: (lS, o') :: rest := by
  show (if a1 = lS then _ else _) :: (if a2 = lS then _ else _) :: (if a3 = lS then _ else _) :: (if a4 = lS then _ else _) :: (if lS = lS then _ else _) :: put lS o' rest = _
  rw [if_neg h1.symm, if_neg h2.symm, if_neg h3.symm, if_neg h4.symm, if_pos rfl, put_off r]
theorem Txts.len {vs : List Value} {ws : List (List Nat)} (h : Txts vs ws) : vs.length = ws.length := by
  induction h with
  | nil => rfl
  | cons _ ih => simp [ih]
theorem ext_loop (w : World) (xs dx ax da q1 q2 lS : Addr) (k1 k2 k3 t1 t2 : Tok) (line : Str) (k v : Nat → Tok) (wc : Str) (rest : List (Addr × Obj)) (hl : line.length ≤ 10000) (hq1 : (q1, deqObj) ∈ rest) (hq2 : (q2, deqObj) ∈ rest)
   (r1 : ∀ q ∈ rest, q.1 ≠ xs) (r2 : ∀ q ∈ rest, q.1 ≠ dx) (r3 : ∀ q ∈ rest, q.1 ≠ ax) (r4 : ∀ q ∈ rest, q.1 ≠ da) (r5 : ∀ q ∈ rest, q.1 ≠ lS) (hda : @LT.lt Nat _ da ax) (hax : @LT.lt Nat _ ax dx) (hxd : @LT.lt Nat _ dx xs) (hxS : @LT.lt Nat _ xs lS) (hwc : (Builtin.Str.occurrences wc (S "'") 0 wc.length 1).isEmpty = true)
   (p' : Program) (loose : List Str) (mean : ExcName → Option Value) (mg mb : Str → Option Value) (dp un : Nat) (gd : Option (List Code)) (cn : Str) (sc : Scope) (a : Addr) (ccd : Value) (outer : List Env) (A₀ : Around) (base h₀ : Heap) (L : Addr) (m : Str → Option Value) (R : Result → Shared → Prop)
    (B : Below A₀ base outer h₀) (X : (K w.params).In h₀) (T : Top p' loose mean mg mb h₀) (hk : sc.kind = .function) (hd : dp + 12 < recursionLimit) (hu : un + 260 < cLine) :
    ∀ (e : Bool) (l : List Nat) (ws : List (List Nat)), Lx e l ws → ∀ (p : Nat) (t3 ts tl tt : Tok) (ln : Int) (acc : Array Value) (c : Nat) (ds : List (List Nat)) (s : Shared), p ≤ line.length → line.cps.toList.drop p = l → Fr h₀ L s.heap m →
      News h₀ L s.heap ((xs, instObj 633 dx) :: (dx, sioD w.params k1 k2 k3 t1 t2 t3 line p) :: (ax, instObj 768 da) :: (da, shD w.params k v wc xs q1 q2 (if e then .none else .str (S " ") ts) ln tl (S "") tt) :: (lS, lstO acc c) :: rest) →
      Txts acc.toList ds → ds.length + ws.length ≤ 1000 →
      (∀ g' acc' c' pe t3' ln' tl' tt' h' tk', KtsTurn (outer.filterMap (·.frame)) h₀ g' → Below A₀ base outer g' → Fr g' L h' m → News g' L h' ((xs, instObj 633 dx) :: (dx, sioD w.params k1 k2 k3 t1 t2 t3' line pe) :: (ax, instObj 768 da) :: (da, shD w.params k v wc xs q1 q2 .none ln' tl' (S "") tt') :: (lS, lstO acc' c') :: rest) →
        Txts acc'.toList (ds ++ ws) → R (.ok (.ret .none)) { s with heap := h', toks := tk' }) →
      codeAny (model PySem.Challenge.rw_mr0367_01.prog w) (ktrTop dp un gd cn sc L a ccd [] outer) (.builtin "list.extend.loop" ⟨[.ref lS, .ref ax, .none], []⟩) R s := by
  have n1 : lS ≠ xs := Nat.ne_of_gt hxS
  have n2 : lS ≠ dx := Nat.ne_of_gt (Nat.lt_trans hxd hxS)
  have n3 : lS ≠ ax := Nat.ne_of_gt (Nat.lt_trans hax (Nat.lt_trans hxd hxS))
  have n4 : lS ≠ da := Nat.ne_of_gt (Nat.lt_trans hda (Nat.lt_trans hax (Nat.lt_trans hxd hxS)))
  intro e l ws hL
  induction hL with
  | done =>
    intro p t3 ts tl tt ln acc c ds s hp hdr F N hT hlen hR
    revert X
    k_fill
    intro X
    refine codeAny_builtin PySem.F.entry_extend_loop ?_
    rw [Around.under_plainId PySem.F.plain_extend_loop _]
    show wpAny _ (ktrTop dp (un + 1) gd cn sc L a ccd [] outer) (pyNext (.ref ax) >>= _) _ _ s
    refine wpAny_bind ?_
    simp only [if_true] at N
    k_dflt (refine' owit_next ?F ?X ?I ?hs ?hf ?_; (case F => k_asm); (case X => k_asm); (case I => k_inst); (case hs => k_is); (case hf => k_is); k_whole)
    refine next_stop w xs dx ax da q1 q2 k1 k2 k3 t1 t2 t3 line p k v wc ln tl tt ((lS, lstO acc c) :: rest) hl (.tail _ hq1) (.tail _ hq2) (ne1 n1 r1) (ne1 n2 r2) (ne1 n3 r3) (ne1 n4 r4) hda hax hxd hdr _ _ _ _ _ _ _ _ _ _ _ _ _ _ _ _ _ _ _ _ _ _ B F X N T hk (by omega) (by omega) hp ?_
    intro g' t3' tt' h' tk' KT B' F' N'
    exact wpAny_pure (hR g' acc c p t3' ln tl tt' h' tk' KT B' F' N' (by simpa using hT))
  | more hrun hq hL ih =>
    intro p t3 ts tl tt ln acc c ds s hp hdr F N hT hlen hR
    revert X
    k_fill
    intro X
    refine codeAny_builtin PySem.F.entry_extend_loop ?_
    rw [Around.under_plainId PySem.F.plain_extend_loop _]
    show wpAny _ (ktrTop dp (un + 1) gd cn sc L a ccd [] outer) (pyNext (.ref ax) >>= _) _ _ s
    refine wpAny_bind ?_
    simp only [Bool.false_eq_true, if_false] at N
    k_dflt (refine' owit_next ?F ?X ?I ?hs ?hf ?_; (case F => k_asm); (case X => k_asm); (case I => k_inst); (case hs => k_is); (case hf => k_is); k_whole)
    refine next_ok w xs dx ax da q1 q2 k1 k2 k3 t1 t2 t3 line p k v wc ts ln tl tt ((lS, lstO acc c) :: rest) hl (.tail _ hq1) (.tail _ hq2) (ne1 n1 r1) (ne1 n2 r2) (ne1 n3 r3) (ne1 n4 r4) hda hax hxd _ _ _ _ (hdr ▸ hrun) hq hwc _ _ _ _ _ _ _ _ _ _ _ _ _ _ _ _ _ _ _ _ _ _ B F X N T hk (by omega) (by omega) hp ?_
    intro pe t t3' ts' ln' tl' tt' h' tk' hpe hdr' F' N'
    rename_i l tok r qd e ws
    have hm : (lS, lstO acc c) ∈ (xs, instObj 633 dx) :: (dx, sioD w.params k1 k2 k3 t1 t2 t3' line pe) :: (ax, instObj 768 da) :: (da, shD w.params k v wc xs q1 q2 (if e then .none else .str (S " ") ts') ln' tl' (S "") tt') :: (lS, lstO acc c) :: rest := .tail _ (.tail _ (.tail _ (.tail _ (.head _))))
    have hsz : acc.size = ds.length := hT.len
    show wpAny _ (ktrTop dp (un + 1) gd cn sc L a ccd [] outer) (updateSeq lS (·.push (.str ⟨tok.toArray⟩ t)) >>= _) _ _ _
    refine wpAny_bind ?_
    refine wpAny_updateSeq (N' _ hm).1 rfl (wpAny_pure ⟨plainId_quiet PySem.F.plain_extend_loop _, ?_⟩) ?_ ?_
    · obtain ⟨F5, N5⟩ := upd_led (Obj.mapSeq (·.push (.str ⟨tok.toArray⟩ t))) F' N' hm rfl
      rw [put_at4 n1 n2 n3 n4 r5] at N5
      refine ih pe t3' ts' tl' tt' ln' (acc.push (.str ⟨tok.toArray⟩ t)) _ (ds ++ [tok]) _ hpe hdr' F5 N5 (by simpa using hT.snoc tok t) (by simp at hlen ⊢; omega) ?_
      intro g' acc' c' pe' t3'' ln'' tl'' tt'' h'' tk'' KT B' F'' N'' hT'
      exact hR g' acc' c' pe' t3'' ln'' tl'' tt'' h'' tk'' KT B' F'' N'' (by simpa using hT')
    · simp at hlen; show acc.size ≤ 2 ^ 24; omega
    · simp at hlen; show (acc.push _).size ≤ 2 ^ 24 + 1; rw [Array.size_push]; omega
theorem iter_ok (w : World) (ax da : Addr) : GivesI w 758 [.ref ax] (fun news => (ax, instObj 768 da) ∈ news) (fun _ => .ref ax) 1 20 := by
  unfold GivesI
  k_fill
  intro p' loose mean mg mb news dp un gd cn sc a ccd cl outer A₀ base h₀ L m s Q E B F X N T hk hd hu hP hret
  refine wpAny_call ?_
  k_dflt (refine' enter (binds := [(S "self", .ref ax)]) ?hp ?hb ?hsc ?k1 ?k2 ?k3 ?k4 ?k5 ?kA ?kF ?kK ?k6 ?k7 ?k8 ?k9 ?kB ?_ ?c2 ?c3 ?c4 ?c5; walk_at "my cases"; intro g L1 h1 FG F1 N1 B1 X1 T1; (try dsimp only); (try k_lift B1); (try k_fold))
  k_steps
  all_goals exact hret 0 _ _ (by k_asm) (by k_asm)
theorem put_head {a : Addr} {o o' : Obj} {news : List (Addr × Obj)} (h : ∀ q ∈ news, q.1 ≠ a) : put a o' ((a, o) :: news) = (a, o') :: news := by
  show (if a = a then _ else _) :: put a o' news = _
  rw [if_pos rfl, put_off h]
theorem inst_of {h₀ h : Heap} {L ax da C : Addr} {od : Obj} {news : List (Addr × Obj)} (N : News h₀ L h news) (h1 : (ax, instObj C da) ∈ news) (h2 : (da, od) ∈ news) : InstAt h ax (instObj C da) C (some od) := ⟨(N _ h1).1, rfl, rfl, (N _ h2).1⟩
theorem mem5 {q a b c d x : Addr × Obj} {rest : List (Addr × Obj)} (h : q ∈ a :: b :: c :: d :: x :: rest) : q = x ∨ q ∈ a :: b :: c :: d :: rest := by
  simp only [List.mem_cons] at h ⊢
  rcases h with h | h | h | h | h | h
  · exact .inr (.inl h)
  · exact .inr (.inr (.inl h))
  · exact .inr (.inr (.inr (.inl h)))
  · exact .inr (.inr (.inr (.inr (.inl h))))
  · exact .inl h
  · exact .inr (.inr (.inr (.inr (.inr h))))
theorem list_ok (w : World) (xs dx ax da q1 q2 : Addr) (k1 k2 k3 t1 t2 t3 : Tok) (line : Str) (p : Nat) (k v : Nat → Tok) (wc : Str) (ts : Tok) (ln : Int) (tl : Tok) (tt : Tok) (rest : List (Addr × Obj)) (hl : line.length ≤ 10000) (hq1 : (q1, deqObj) ∈ rest) (hq2 : (q2, deqObj) ∈ rest)
   (r1 : ∀ q ∈ rest, q.1 ≠ xs) (r2 : ∀ q ∈ rest, q.1 ≠ dx) (r3 : ∀ q ∈ rest, q.1 ≠ ax) (r4 : ∀ q ∈ rest, q.1 ≠ da) (hda : @LT.lt Nat _ da ax) (hax : @LT.lt Nat _ ax dx) (hxd : @LT.lt Nat _ dx xs) (hwc : (Builtin.Str.occurrences wc (S "'") 0 wc.length 1).isEmpty = true)
   (ws : List (List Nat)) (hL : Lx false (line.cps.toList.drop p) ws) (hws : ws.length ≤ 1000)
   (p' : Program) (loose : List Str) (mean : ExcName → Option Value) (mg mb : Str → Option Value) (dp un : Nat) (gd : Option (List Code)) (cn : Str) (sc : Scope) (a : Addr) (ccd : Value) (outer : List Env) (A₀ : Around) (base h₀ : Heap) (L : Addr) (m : Str → Option Value) (s : Shared) (Q E : Value → Shared → Prop)
    (B : Below A₀ base outer h₀) (F : Fr h₀ L s.heap m) (X : (K w.params).In h₀) (N : News h₀ L s.heap ((xs, instObj 633 dx) :: (dx, sioD w.params k1 k2 k3 t1 t2 t3 line p) :: (ax, instObj 768 da) :: (da, shD w.params k v wc xs q1 q2 (.str (S " ") ts) ln tl (S "") tt) :: rest)) (T : Top p' loose mean mg mb h₀) (hk : sc.kind = .function) (hd : dp + 14 < recursionLimit) (hu : un + 280 < cLine) (hp : p ≤ line.length)
    (hret : ∀ lS g' acc' c' h' tk', KtsTurn (outer.filterMap (·.frame)) h₀ g' → Below A₀ base outer g' → Fr g' L h' m → News g' L h' ((lS, lstO acc' c') :: rest) → Txts acc'.toList ws → (∀ q ∈ rest, q.1 < lS) → Q (.ref lS) { s with heap := h', toks := tk' }) :
    wpAny (model PySem.Challenge.rw_mr0367_01.prog w) (ktrTop dp un gd cn sc L a ccd [] outer) (call (.type "list") [.ref ax]) Q E s := by
  revert X
  k_fill
  intro X
  obtain ⟨hh, gg, dd, tk0, os⟩ := s
  have hlt : ∀ q ∈ (xs, instObj 633 dx) :: (dx, sioD w.params k1 k2 k3 t1 t2 t3 line p) :: (ax, instObj 768 da) :: (da, shD w.params k v wc xs q1 q2 (.str (S " ") ts) ln tl (S "") tt) :: rest, q.1 < hh.objs.size := fun q hq => Heap.lt_size (N q hq).1
  refine callType_codes (Q₁ := fun obj s₁ => obj = .ref hh.objs.size ∧ s₁ = ⟨hh.push (lstO #[] 0), gg, dd, tk0, os⟩) PySem.F.called_list (PySem.F.typeCall_list_1 _) PySem.F.entry_list_init (code_list_new _ ⟨rfl, rfl⟩) fun obj s₁ h₁ => ?_
  obtain ⟨rfl, rfl⟩ := h₁
  have hS : (hh.push (lstO #[] 0)).get? hh.objs.size = some (lstO #[] 0) := Heap.get?_push_size _ rfl
  refine ⟨⟨_, hS, rfl⟩, PySem.F.args_list_init_2 _ _, ?_⟩
  have F1 := F.push (lstO #[] 0)
  have N1 := N.push F (lstO #[] 0)
  show wpAny _ (ktrTop dp (un + 2) gd cn sc L a ccd [] outer) (do let old ← Builtin.List.listItems (.ref hh.objs.size); Builtin.List.listUpdate (.ref hh.objs.size) (fun _ => #[]); letGo old.toList.reverse; Builtin.List.listExtendWith (.ref hh.objs.size) (.ref ax) .none) _ _ _
  refine wpAny_bind ?_
  unfold Builtin.List.listItems
  refine wpAny_bind (wpAny_seqItems hS rfl (wpAny_pure ?_))
  show wpAny _ (ktrTop dp (un + 2) gd cn sc L a ccd [] outer) (updateSeq hh.objs.size (fun _ => #[]) >>= fun _ => letGo (#[] : Array Value).toList.reverse >>= fun _ => Builtin.List.listExtendWith (.ref hh.objs.size) (.ref ax) .none) _ _ _
  refine wpAny_bind (wpAny_updateSeq hS rfl ?_)
  obtain ⟨F2, N2⟩ := upd_led (Obj.mapSeq (fun _ => (#[] : Array Value))) F1 N1 (.head _) rfl
  have hna : ∀ q ∈ (xs, instObj 633 dx) :: (dx, sioD w.params k1 k2 k3 t1 t2 t3 line p) :: (ax, instObj 768 da) :: (da, shD w.params k v wc xs q1 q2 (.str (S " ") ts) ln tl (S "") tt) :: rest, q.1 ≠ hh.objs.size := fun q hq => Nat.ne_of_lt (hlt q hq)
  rw [put_head hna] at N2
  refine wpAny_bind (wpAny_letGo ?_)
  unfold Builtin.List.listExtendWith
  have hne : hh.objs.size ≠ ax := Nat.ne_of_gt (hlt (ax, instObj 768 da) (.tail _ (.tail _ (.head _))))
  have hne4 : hh.objs.size ≠ da := Nat.ne_of_gt (hlt (da, _) (.tail _ (.tail _ (.tail _ (.head _)))))
  have I : InstAt ((hh.push (lstO #[] 0)).update hh.objs.size (Obj.mapSeq fun _ => (#[] : Array Value))) ax (instObj 768 da) 768 (some (shD w.params k v wc xs q1 q2 (.str (S " ") ts) ln tl (S "") tt)) := inst_of N2 (.tail _ (.tail _ (.tail _ (.head _)))) (.tail _ (.tail _ (.tail _ (.tail _ (.head _)))))
  refine wpAny_bind (I.type.here ?_)
  have h1 : Builtin.List.listSameRef (.ref hh.objs.size) (.ref ax) = false := by simp [Builtin.List.listSameRef, hne]
  have h2 : (Value.ref 768 == Value.type "list") = false := by decide
  have h3 : (Value.ref 768 == Value.type "tuple") = false := by decide
  simp only [h1, h2, h3, Bool.or_false, Bool.false_eq_true, if_false]
  refine wpAny_bind ?_
  k_dflt (refine' owit_iter ?F ?X ?I ?hs ?hf ?_; (case F => k_asm); (case X => k_asm); (case I => exact I); (case hs => k_is); (case hf => k_is); k_whole)
  refine GivesI.use (iter_ok _ ax da) B F2 X N2 T hk (by omega) (by omega) (.tail _ (.tail _ (.tail _ (.head _)))) ?_
  intro t9 h9 tk9 F9 N9
  have I9 := inst_of N9 (.tail _ (.tail _ (.tail _ (.head _)))) (.tail _ (.tail _ (.tail _ (.tail _ (.head _)))))
  k_dflt (refine' owit_it ?F ?X ?I ?hs ?_; (case F => exact F9); (case X => k_asm); (case I => exact I9); (case hs => k_is); k_whole)
  refine wpAny_bind (wpAny_holding ?_)
  unfold Builtin.List.listLengthHint
  have s1 : findIn (K w.params) (.ref 768) "__len__" = some none := by kernel_rfl
  have s2 : findIn (K w.params) (.ref 768) "__length_hint__" = some none := by kernel_rfl
  refine wpAny_bind (wpAny_bind (I9.type.here ((looks_findIn (X.keeps F9.keep) s1).here ?_)))
  show wpAny _ _ (specialOf (Value.ref ax) (Str.ofString "__length_hint__") >>= _) _ _ _
  refine wpAny_bind (wpAny_bind (I9.type.here ((looks_findIn (X.keeps F9.keep) s2).here ?_)))
  refine wpAny_pure ?_
  show wpAny _ _ (rule "list.extend.makes-room" >>= fun _ => Builtin.List.listTouch (.ref hh.objs.size) >>= fun _ =>
    again (.builtin "list.extend.loop" ⟨[.ref hh.objs.size, .ref ax, .none], []⟩)) _ _ _
  refine wpAny_bind (wpAny_rule ?_)
  refine wpAny_bind ?_
  show wpAny _ _ (updateSeq hh.objs.size (·.push .none) >>= fun _ => updateSeq hh.objs.size (·.pop)) _ _ _
  refine wpAny_bind (wpAny_updateSeq (N9 _ (.head _)).1 rfl ?_)
  obtain ⟨F10, N10⟩ := upd_led (Obj.mapSeq (·.push Value.none)) F9 N9 (.head _) rfl
  rw [put_head hna] at N10
  refine wpAny_updateSeq (hz := by seq_fits) (N10 _ (.head _)).1 rfl ?_
  obtain ⟨F11, N11⟩ := upd_led (Obj.mapSeq (·.pop)) F10 N10 (.head _) rfl
  rw [put_head hna] at N11
  refine wpAny_pure ⟨plainId_quiet PySem.F.plain_extend_loop _, ?_⟩
  have N12 : News h₀ L _ ((xs, instObj 633 dx) :: (dx, sioD w.params k1 k2 k3 t1 t2 t3 line p) :: (ax, instObj 768 da) :: (da, shD w.params k v wc xs q1 q2 (.str (S " ") ts) ln tl (S "") tt) :: (hh.objs.size, Obj.mapSeq (·.pop) (Obj.mapSeq (·.push Value.none) (Obj.mapSeq (fun _ => (#[] : Array Value)) (lstO #[] 0)))) :: rest) := fun q hq => N11 q ((mem5 hq).elim (fun z => z ▸ .head _) (.tail _))
  have hr : ∀ q ∈ rest, q.1 < hh.objs.size := fun q hq => hlt q (.tail _ (.tail _ (.tail _ (.tail _ hq))))
  refine ext_loop w xs dx ax da q1 q2 hh.objs.size k1 k2 k3 t1 t2 line k v wc rest hl hq1 hq2 r1 r2 r3 r4 (fun q hq => Nat.ne_of_lt (hr q hq)) hda hax hxd (hlt _ (.head _)) hwc p' loose mean mg mb dp (un + 1) gd cn sc a ccd outer A₀ base h₀ L m _ B X T hk (by omega) (by omega) false _ ws hL p t3 ts tl tt ln _ _ [] _ hp rfl F11 N12 (by exact .nil) (by simpa using hws) ?_
  intro g' acc' c' pe t3' ln' tl' tt' h' tk' KT B' F' N' hT
  exact ⟨rfl, hret hh.objs.size g' acc' c' h' tk' KT B' F' (fun q hq => N' q (.tail _ (.tail _ (.tail _ (.tail _ hq))))) (by simpa using hT) hr⟩
end
section
theorem sio_madeBy (P : Params) (S1 : Setting) : peek (K P) S1 (Bind.madeBy (.ref 633)) = some none := by kernel_rfl
theorem sio_here (P : Params) (S1 : Setting) : peek (K P) S1 (Bind.madeHere "object.__new__" (.ref 633)) = some () := by kernel_rfl
theorem sio_base (P : Params) (S1 : Setting) : peek (K P) S1 (Bind.staticBase (.ref 633)) = some (.type "object") := by kernel_rfl
theorem sio_mades (P : Params) (S1 : Setting) : peek (K P) S1 (Bind.madeBy (.type "object")) = some (some "object.__new__") := by kernel_rfl
theorem sio_attr (P : Params) : findCls (K P) (.ref 633) (.type "type") "__new__" = some (.get (.builtin "staticmethod.__get__") (.ref 130) .none (.ref 633)) := by kernel_rfl
theorem sio_rec (P : Params) : recIn (K P) 130 "staticmethod" = some [.ref 126] := by kernel_rfl
def clsOk (k : Frag) (C : Addr) : Bool := match k.lookup C with
  | some ⟨_, _, .cls cd, _⟩ => !cd.abstract && !cd.hasDel && !cd.mro.isEmpty
  | _ => false
theorem cls_of {k : Frag} {h : Heap} {C : Addr} (X : k.In h) (e : clsOk k C = true) : ∃ oc od cd sl, h.get? C = some ⟨oc, od, .cls cd, sl⟩ ∧ cd.abstract = false ∧ cd.hasDel = false ∧ cd.mro.isEmpty = false ∧ clsIn k C = some cd := by
  unfold clsOk at e
  split at e
  · rename_i oc od cd sl ho
    simp only [Bool.and_eq_true, Bool.not_eq_true'] at e
    obtain ⟨⟨e1, e2⟩, e3⟩ := e
    exact ⟨oc, od, cd, sl, X _ _ ho, e1, e2, e3, by unfold clsIn; rw [ho]⟩
  · cases e
theorem sio_cls (P : Params) : clsOk (K P) 633 = true := by kernel_rfl
theorem sio_top (P : Params) : mroIn (K P) 633 (.type "object") = some true := by kernel_rfl
section
variable {w : World} {A : Around} {R : Result → Shared → Prop} {h : Heap} {g : Array GenState} {d : Drawn} {t : Nat} {os : OsState}
theorem sio_new (X : (K w.params).In h) (hq : R (.ok (.ret (.ref (h.objs.size + 1)))) ⟨(h.push emptyDict).push (instObj 633 h.objs.size), g, d, t, os⟩) :
    codeAny (model PySem.Challenge.rw_mr0367_01.prog w) A (.call (.builtin "object.__new__") ⟨[.ref 633], []⟩) R ⟨h, g, d, t, os⟩ := by
  have F := PySem.F.objNew
  obtain ⟨oc, od, cd, sl, hC, e1, e2, e4, ec⟩ := cls_of X (sio_cls w.params)
  have top : Looks (model PySem.Challenge.rw_mr0367_01.prog w) h (isSubtype (.ref 633) (.type "object")) true := looks_mroIn X (sio_top _)
  refine codeAny_call_builtin_code (Code.quiet_builtin _ F.quiet) ?_
  simp only [checkBuiltinCall, F.kind, F.split, F.row]
  have here : Looks (model PySem.Challenge.rw_mr0367_01.prog w) h (Bind.madeHere "object.__new__" (.ref 633)) () := Looks.of_peek X (sio_here _ _)
  have base : Looks (model PySem.Challenge.rw_mr0367_01.prog w) h (Bind.staticBase (.ref 633)) (.type "object") := Looks.of_peek X (sio_base _ _)
  have made : Looks (model PySem.Challenge.rw_mr0367_01.prog w) h (Bind.madeBy (.type "object")) (some "object.__new__") := Looks.of_peek X (sio_mades _ _)
  have args : Bind.checkArgs "object.__new__" ⟨.hand, "object.__new__", "__new__", .cls, []⟩ ⟨[.ref 633], []⟩ = pure () := by kernel_rfl
  rw [args]
  repeat (first | simp only [bne_self_eq_false, Bool.false_eq_true, if_false] | lk)
  refine codeAny_builtin F.entry ?_
  unfold Builtin.«object.__new__»
  have fin : ∀ A', wpAny (model PySem.Challenge.rw_mr0367_01.prog w) A' (do
      let d ← if typeHasDict (.ref 633) then some <$> alloc { cls := .type "dict", data := .dict #[] } else pure none
      ret (← newObj (.ref 633) .plain d)) (fun fin s' => match fin with | .done f => R (.ok f) s' | .again c' => c'.quiet = true ∧ codeAny (model PySem.Challenge.rw_mr0367_01.prog w) A c' R s') (fun e s' => R (.error e) s') ⟨h, g, d, t, os⟩ := by
    intro A'
    show wpAny _ _ ((alloc emptyDict >>= fun x => pure (some x)) >>= _) _ _ _
    refine wpAny_bind (wpAny_bind (wpAny_alloc (wpAny_pure (wpAny_bind ?_))))
    show wpAny _ _ (newObjAsIs _ _ _) _ _ _
    unfold newObjAsIs classHasDel
    refine wpAny_bind (wpAny_alloc (wpAny_bind (wpAny_bind (wpAny_load (Heap.get?_push_of_some _ (Heap.get?_push_of_some _ hC)) (wpAny_pure ?_)))))
    rw [e2]
    refine wpAny_pure (wpAny_pure ?_)
    show R _ _
    rw [Heap.size_push]
    exact hq
  repeat (first | simp only [e1, Bool.false_eq_true, if_false] | exact fin _ | lk)
end
end
section
section
variable {w : World} {A A₀ : Around} {s : Shared} {k : Frag} {L : Addr} {h₀ base : Heap} {m mg mb : Str → Option Value} {news : List (Addr × Obj)} {p : Program} {loose : List Str} {mean : ExcName → Option Value}
/-- a def with *args and **kwargs is entered: its parts made explicit -/
theorem enterB {env : Env} {outer : List Env} {R : Result → Shared → Prop} {name qual : Str} {stm : Stmt} {pr : Arguments} {b : List Stmt} {sc : Scope} {dV kV doc pm cdv ct oc : Value} {an od : Option Addr} {osl : Array (Option Value)} {f : Addr} {args : Args} {vs : List Value} {nm nr : Str} {ex front : List (Str × Value)} {DD : List (PyData × PyData)} {g₁ : Addr → Sem (List (Str × Value))} {g₂ : Addr → Addr → Sem (List (Str × Value))}
    (hp : fParams stm = pr) (hb : fBody stm = b) (hsc : fScope stm = sc)
    (B : Below A₀ base outer h₀) (F : Fr h₀ L s.heap m) (X₀ : k.In h₀) (N : News h₀ L s.heap news) (T : Top p loose mean mg mb h₀) (hA : A.frames = some (env :: outer)) (hf : env.frame = some L) (hke : env.scope.kind = .function)
    (ho : k.lookup f = some ⟨oc, od, .func (fnS stm name qual dV kV doc pm an cdv ct), osl⟩) (hcd : codeIn k cdv qual = true) (hroom : A.depth < recursionLimit)
    (hv : args.pos.drop (pr.posonlyargs.length + pr.args.length) = vs) (hx : args.kw.filter (fun x => !ownKw pr x.1) = ex) (hnr : pr.vararg.map (·.arg) = some nr) (hnm : pr.kwarg.map (·.arg) = some nm) (hn : kwDistinct ex = true) (hD : PyProof.V.FlatPairs PyData.str ex DD)
    (hfr : peek k ⟨PySem.Challenge.rw_mr0367_01.prog, w.params⟩ (bindArgs (fnCut (fnS stm name qual dV kV doc pm an cdv ct)) (argsCut pr args)) = some front)
    (hpa : peekA k ⟨PySem.Challenge.rw_mr0367_01.prog, w.params⟩ (bindArgs (fnS stm name qual dV kV doc pm an cdv ct) args) = some (({ cls := .type "tuple", data := .seq vs.toArray } : Obj), g₁))
    (hp₂ : ∀ D, peekA k ⟨PySem.Challenge.rw_mr0367_01.prog, w.params⟩ (g₁ D) = some (dictOf [] 0, g₂ D))
    (hk₂ : ∀ C D, g₂ C D = (forIn ex PUnit.unit (fun x _ => (nsSet D x.1 x.2 >>= fun _ => pure (ForInStep.yield PUnit.unit))) >>= fun _ => pure (front ++ [(nr, Value.ref C)] ++ [(nm, Value.ref D)])))
    (hloc : ∀ C D, ∀ y ∈ front ++ [(nr, Value.ref C)] ++ [(nm, Value.ref D)], sc.names.lookup y.1 = some .local)
    (h : ∀ C D o g L' h₁ tk, (∀ p ∈ news, p.1 < C) → C < D → (D == sysModules) = false → o.IsDictOf (strKind PySem.Challenge.rw_mr0367_01.prog w) ex → PyProof.V.FlatPairs PyData.str ex DD → Fr h₀ L g m → Fr g L' h₁ (fun y => (front ++ [(nr, Value.ref C)] ++ [(nm, Value.ref D)]).reverse.lookup y) →
      News g L' h₁ ((D, o) :: (C, ({ cls := .type "tuple", data := .seq vs.toArray } : Obj)) :: news) → Below A base (env :: outer) g → k.In g → Top p loose mean mg mb g →
      wpAny (model PySem.Challenge.rw_mr0367_01.prog w) (A.deeper (envOf qual sc L' f cdv)) (execs b (envOf qual sc L' f cdv))
        (fun fl s' => LeaveK h₀ L m g R (match fl with | .ret v => v | _ => .none) s')
        (fun e s' => wpAny (model PySem.Challenge.rw_mr0367_01.prog w) (A.deeper (envOf qual sc L' f cdv)) (leaving (envOf qual sc L' f cdv) e) (fun _ s'' => R (.error e) s'') (fun e' s'' => R (.error e') s'') s')
        { s with heap := h₁, toks := tk })
    (hco : sc.isCoroutine = false) (hgen : sc.isGenerator = false) (hk : sc.kind = .function)
    (hcell : ∀ x ∈ sc.names, x.2 ≠ .cell) : codeAny (model PySem.Challenge.rw_mr0367_01.prog w) A (.call (.ref f) args) R s := by
  subst hp hb hsc
  exact kp_both B F X₀ N T hA hf hke ho hcd hroom hv hx hnr hnm hn hD hfr hpa hp₂ hk₂ hloc h hco hgen hk hcell
end
local macro_rules | `(tactic| walk_at "my casesB") => `(tactic| ((case kA => exact rfl); (case kF => exact rfl); (case kK => assumption); (case k1 => k_asm); (case k2 => k_asm); (case k3 => k_asm); (case k4 => k_asm); (case k5 => k_asm); (case k6 => k_is); (case hp => (conv => lhs; whnf)); (case hb => (conv => lhs; whnf)); (case hsc => (conv => lhs; whnf)); (case k7 => k_is); (case k8 => ktr_room); (case kV => exact rfl); (case kX => exact rfl); (case kQ => exact rfl); (case kM => exact rfl); (case kN => exact rfl); (case kD => kp_flats); (case kR => exact rfl); (case kP => exact rfl); (case kS => exact fun _ => rfl); (case kT => exact fun _ _ => rfl); (case kB => exact fun _ _ => locs rfl); (case c5 => decide); (case c2 => exact rfl); (case c3 => exact rfl); (case c4 => exact rfl); k_whole))
theorem made2 {h₀ h : Heap} {L : Addr} {m : Str → Option Value} {news : List (Addr × Obj)} (F : Fr h₀ L h m) (N : News h₀ L h news) (C : Addr) :
    Fr h₀ L ((h.push emptyDict).push (instObj C h.objs.size)) m ∧ News h₀ L ((h.push emptyDict).push (instObj C h.objs.size)) ((h.objs.size + 1, instObj C h.objs.size) :: (h.objs.size, emptyDict) :: news) := by
  have F1 := F.push emptyDict
  have N1 := N.push F emptyDict
  have N2 := N1.push F1 (instObj C h.objs.size)
  rw [Heap.size_push] at N2
  exact ⟨F1.push _, N2⟩
theorem mem_skip2 {q a b c d : Addr × Obj} {r : List (Addr × Obj)} (h : q ∈ a :: b :: r) : q ∈ a :: b :: c :: d :: r := by
  simp only [List.mem_cons] at h ⊢
  rcases h with h | h | h
  · exact .inl h
  · exact .inr (.inl h)
  · exact .inr (.inr (.inr (.inr h)))
theorem new126 (w : World) (x : Str) (t : Tok)
   (p' : Program) (loose : List Str) (mean : ExcName → Option Value) (mg mb : Str → Option Value) (news : List (Addr × Obj)) (dp un : Nat) (gd : Option (List Code)) (cn : Str) (sc : Scope) (a : Addr) (ccd : Value) (cl : List (Str × Addr)) (outer : List Env) (A₀ : Around) (base h₀ : Heap) (L : Addr) (m : Str → Option Value) (s : Shared) (Q E : Value → Shared → Prop)
    (B : Below A₀ base outer h₀) (F : Fr h₀ L s.heap m) (X : (K w.params).In h₀) (N : News h₀ L s.heap news) (T : Top p' loose mean mg mb h₀) (hk : sc.kind = .function) (hd : dp + 4 < recursionLimit) (hu : un + 60 < cLine)
    (hret : ∀ xs dx h' tk', Fr h₀ L h' m → News h₀ L h' ((xs, instObj 633 dx) :: (dx, emptyDict) :: news) → (∀ p ∈ news, p.1 < dx) → @LT.lt Nat _ dx xs → Q (.ref xs) { s with heap := h', toks := tk' }) :
    wpAny (model PySem.Challenge.rw_mr0367_01.prog w) (ktrTop dp un gd cn sc L a ccd cl outer) (call (.ref 126) [.ref 633, .str x t]) Q E s := by
  revert X
  k_fill
  intro X
  refine wpAny_call ?_
  k_dflt (refine' enterB ?hp ?hb ?hsc ?k1 ?k2 ?k3 ?k4 ?k5 ?kA ?kF ?kK ?k6 ?k7 ?k8 ?kV ?kX ?kQ ?kM ?kN ?kD ?kR ?kP ?kS ?kT ?kB ?_ ?c2 ?c3 ?c4 ?c5; walk_at "my casesB"; intro C' D' o' g L1 h1 tk1 l1 l2 lo' hs' fs' FG F1 N1 B1 X1 T1; (try dsimp only); (try k_lift B1); (try k_fold))
  k_steps
  refine wpAny_call (sio_new (X1.keeps F1.keep) ?_)
  have hlt : ∀ p ∈ news, p.1 < h1.objs.size := fun q hq => Heap.lt_size (N1 q (.tail _ (.tail _ hq))).1
  obtain ⟨F2, N2⟩ := made2 F1 N1 633
  dsimp only
  k_steps
  all_goals exact hret _ _ _ _ (by k_asm) (fun q hq => by first | exact ‹News h₀ L _ _› q (mem_skip2 hq) | skip) hlt (Nat.lt_succ_self _)
end
section
theorem trans_ok (w : World) (xs dx : Addr) (k1 k2 k3 t1 t2 t3 t : Tok) (y x : Str) (p : Int) : GivesI w 410 [.ref xs, .str x t] (fun news => (xs, instObj 633 dx) ∈ news ∧ (dx, sioD w.params k1 k2 k3 t1 t2 t3 y p) ∈ news) (fun _ => .str x t) 1 20 := by
  unfold GivesI
  k_fill
  intro p' loose mean mg mb news dp un gd cn sc a ccd cl outer A₀ base h₀ L m s Q E B F X N T hk hd hu hP hret
  obtain ⟨hm1, hm2⟩ := hP
  refine wpAny_call ?_
  k_dflt (refine' enter (binds := [(S "self", .ref xs), (S "s", .str x t)]) ?hp ?hb ?hsc ?k1 ?k2 ?k3 ?k4 ?k5 ?kA ?kF ?kK ?k6 ?k7 ?k8 ?k9 ?kB ?_ ?c2 ?c3 ?c4 ?c5; walk_at "my cases"; intro g L1 h1 FG F1 N1 B1 X1 T1; (try dsimp only); (try k_lift B1); (try k_fold))
  k_steps
  all_goals exact hret 0 _ _ (by k_asm) (by k_asm)
local macro_rules | `(tactic| walk_at "call ref") => `(tactic| (k_here; (with_reducible show wpAny _ _ (call (Value.ref 410) _) _ _ _); k_dflt (refine' GivesI.use (trans_ok _ _ _ _ _ _ _ _ _ _ _ _ _) ?k1 ?k2 ?k3 ?k4 ?k5 ?kK ?kd ?ku ?q ?_; (case k1 => k_asm); (case k2 => k_asm); (case k3 => k_asm); (case k4 => k_asm); (case k5 => k_asm); (case kK => first | exact rfl | assumption); (case kd => ktr_room); (case ku => ktr_units); (case q => exact ⟨by k_mem, by k_mem⟩); k_whole; intro t9 h9 tk9 F9 N9; (try dsimp only); (try k_fold))))
local macro_rules | `(tactic| k_all) => `(tactic| assumption)
theorem init403 (w : World) (xs dx : Addr) (x : Str) (t : Tok) (rest : List (Addr × Obj)) (hne1 : ∀ q ∈ rest, q.1 ≠ xs) (hne2 : ∀ q ∈ rest, q.1 ≠ dx) (hxd : @LT.lt Nat _ dx xs)
   (p' : Program) (loose : List Str) (mean : ExcName → Option Value) (mg mb : Str → Option Value) (dp un : Nat) (gd : Option (List Code)) (cn : Str) (sc : Scope) (a : Addr) (ccd : Value) (cl : List (Str × Addr)) (outer : List Env) (A₀ : Around) (base h₀ : Heap) (L : Addr) (m : Str → Option Value) (s : Shared) (Q E : Value → Shared → Prop)
    (B : Below A₀ base outer h₀) (F : Fr h₀ L s.heap m) (X : (K w.params).In h₀) (N : News h₀ L s.heap ((xs, instObj 633 dx) :: (dx, emptyDict) :: rest)) (T : Top p' loose mean mg mb h₀) (hk : sc.kind = .function) (hd : dp + 4 < recursionLimit) (hu : un + 60 < cLine)
    (hret : ∀ k1 k2 k3 t1 t2 t3 h' tk', Fr h₀ L h' m → News h₀ L h' ((xs, instObj 633 dx) :: (dx, sioD w.params k1 k2 k3 t1 t2 t3 x 0) :: rest) → Q .none { s with heap := h', toks := tk' }) :
    wpAny (model PySem.Challenge.rw_mr0367_01.prog w) (ktrTop dp un gd cn sc L a ccd cl outer) (call (.ref 403) [.ref xs, .str x t]) Q E s := by
  revert X
  k_fill
  intro X
  refine wpAny_call ?_
  k_dflt (refine' enter (binds := [(S "self", .ref xs), (S "initial_value", .str x t), (S "newline", .str (S "\n") 812)]) ?hp ?hb ?hsc ?k1 ?k2 ?k3 ?k4 ?k5 ?kA ?kF ?kK ?k6 ?k7 ?k8 ?k9 ?kB ?_ ?c2 ?c3 ?c4 ?c5; walk_at "my cases"; intro g L1 h1 FG F1 N1 B1 X1 T1; (try dsimp only); (try k_lift B1); (try k_fold))
  k_steps
  all_goals exact hret _ _ _ _ _ _ _ _ (by k_asm) (by k_asm)
end
section
theorem sio_call (P : Params) : specialIn (K P) (.ref 633) "__call__" = some (some (.builtin "type.__call__")) := by kernel_rfl
theorem sio_typ (P : Params) : instIn (K P) (.ref 633) (.type "type") = some true := by kernel_rfl
theorem sio_self (P : Params) : mroIn (K P) 633 (.ref 633) = some true := by kernel_rfl
theorem sio_init (P : Params) : findIn (K P) (.ref 633) "__init__" = some (some (.ref 403)) := by kernel_rfl
theorem sio_initfn (P : Params) : typeIn (K P) (.ref 403) = some (.type "function") := by kernel_rfl
theorem sio_reads (P : Params) : readsIn (K P) 633 (.type "type") = true := by kernel_rfl
theorem sio_ty (P : Params) : typeIn (K P) (.ref 633) = some (.type "type") := by kernel_rfl
theorem under_tc (dp un : Nat) (gd : Option (List Code)) (cn : Str) (sc : Scope) (L a : Addr) (ccd : Value) (cl : List (Str × Addr)) (outer : List Env) (C : Addr) (vs : List Value) (kw : List (Str × Value)) :
    (ktrTop dp un gd cn sc L a ccd cl outer).under (.builtin "type.__call__" ⟨.ref C :: vs, kw⟩) = ktrTop (dp + 1) (un + 1) gd cn sc L a ccd cl outer := by
  cases gd <;> rfl
theorem sio_make (w : World) (x : Str) (t : Tok) (news : List (Addr × Obj))
   (p' : Program) (loose : List Str) (mean : ExcName → Option Value) (mg mb : Str → Option Value) (dp un : Nat) (gd : Option (List Code)) (cn : Str) (sc : Scope) (a : Addr) (ccd : Value) (cl : List (Str × Addr)) (outer : List Env) (A₀ : Around) (base h₀ : Heap) (L : Addr) (m : Str → Option Value) (s : Shared) (Q E : Value → Shared → Prop)
    (B : Below A₀ base outer h₀) (F : Fr h₀ L s.heap m) (X : (K w.params).In h₀) (N : News h₀ L s.heap news) (T : Top p' loose mean mg mb h₀) (hk : sc.kind = .function) (hd : dp + 5 < recursionLimit) (hu : un + 70 < cLine)
    (hret : ∀ xs dx k1 k2 k3 t1 t2 t3 h' tk', Fr h₀ L h' m → News h₀ L h' ((xs, instObj 633 dx) :: (dx, sioD w.params k1 k2 k3 t1 t2 t3 x 0) :: news) → (∀ p ∈ news, p.1 < dx) → @LT.lt Nat _ dx xs → Q (.ref xs) { s with heap := h', toks := tk' }) :
    wpAny (model PySem.Challenge.rw_mr0367_01.prog w) (ktrTop dp un gd cn sc L a ccd cl outer) (call (.ref 633) [.str x t]) Q E s := by
  have Xs := X.keeps F.keep
  obtain ⟨oc, od, cd, sl, hC, e1, e2, e4, ec⟩ := cls_of Xs (sio_cls w.params)
  have call : Looks (model PySem.Challenge.rw_mr0367_01.prog w) s.heap (specialOf (.ref 633) "__call__") (some (.builtin "type.__call__")) := looks_specialIn Xs (sio_call _)
  have typ : Looks (model PySem.Challenge.rw_mr0367_01.prog w) s.heap (isInstance (.ref 633) (.type "type")) true := looks_instIn Xs (sio_typ _)
  have made : Looks (model PySem.Challenge.rw_mr0367_01.prog w) s.heap (Bind.madeBy (.ref 633)) none := Looks.of_peek Xs (sio_madeBy _ _)
  obtain ⟨hh, gg, dd, tk, os⟩ := s
  refine wpAny_call (codeAny_of_tree ?_)
  show wpAny _ _ (callAny (.ref 633) _) _ _ _
  refine nd_load hC ?_
  show wpAny _ _ (callAny.viaDunder (.ref 633) _) _ _ _
  unfold callAny.viaDunder
  refine wpAny_bind (call.at ?_)
  dsimp only
  rw [tc_bind]
  refine wpAny_bind (wpAny_pure (wpAny_bind (wpAny_pure ?_)))
  refine wpAny_pure (a := Fin.again (.call (.builtin "type.__call__") ⟨.ref 633 :: [.str x t], []⟩)) (And.intro rfl ?_)
  refine codeAny_call_builtin_at (Code.quiet_builtin _ (by decide +kernel)) entry_typeCall (check_slot tc_kind tc_split typ (tc_args _ _ _) ?_)
  rw [under_tc]
  unfold Builtin.«type.__call__»
  have hm : Looks (model PySem.Challenge.rw_mr0367_01.prog w) hh (mroOf (.ref 633)) cd.mro := ((Looks.ld (part := none) hC).andThen .now).andThen .now
  repeat ((fail_if_success (with_reducible show wpAny _ _ (getAttr _ _ _) _ _ _)); (first | simp only [e4, Bool.false_eq_true, if_false] | lk))
  refine cls_sm F X (sio_ty _) (sio_reads _) (sio_attr _) (sio_rec _) rfl ?_
  repeat ((fail_if_success (with_reducible show wpAny _ _ (PySem.call _ _ _) _ _ _)); lk)
  refine new126 w x t _ _ _ _ _ news _ _ _ _ _ _ _ _ _ _ _ _ _ _ _ _ _ B F X N T hk (by omega) (by omega) ?_
  intro xs dx h1 tk1 F1 N1 l1 l2
  have Xs1 := X.keeps F1.keep
  have hx := (N1 _ (.head _)).1
  have self : Looks (model PySem.Challenge.rw_mr0367_01.prog w) h1 (isSubtype (.ref 633) (.ref 633)) true := looks_mroIn Xs1 (sio_self _)
  have t1 : Looks (model PySem.Challenge.rw_mr0367_01.prog w) h1 (typeOf (.ref xs)) (.ref 633) := (Looks.ld hx).andThen .now
  have i1 : Looks (model PySem.Challenge.rw_mr0367_01.prog w) h1 (typeLookup (.ref 633) "__init__") (some (.ref 403)) := looks_findIn Xs1 (sio_init _)
  have b1 : Looks (model PySem.Challenge.rw_mr0367_01.prog w) h1 (bindSpecial (.ref 403) (.ref xs)) (.ref 403, [.ref xs]) := bind_fn Xs1 _ (sio_initfn _)
  unfold isInstance callSpecial? specialOf
  repeat ((fail_if_success (with_reducible show wpAny _ _ (PySem.call _ _ _) _ _ _)); lk)
  refine init403 w xs dx x t news (fun q hq => Nat.ne_of_lt (Nat.lt_trans (l1 q hq) l2)) (fun q hq => Nat.ne_of_lt (l1 q hq)) l2 _ _ _ _ _ _ _ _ _ _ _ _ _ _ _ _ _ _ _ _ _ _ B F1 X N1 T hk (by omega) (by omega) ?_
  intro k1 k2 k3 t1 t2 t3 h2 tk2 F2 N2
  refine wpAny_pure ?_
  show wpAny _ _ (ret (Value.ref xs)) _ _ _
  exact wpAny_pure (hret xs dx k1 k2 k3 t1 t2 t3 h2 tk2 F2 N2 l1 l2)
end
section
local macro_rules | `(tactic| walk_at "call ref") => `(tactic| (k_here; (with_reducible show wpAny _ _ (call (Value.ref 633) _) _ _ _); k_dflt (refine' sio_make _ _ _ _ _ _ _ _ _ _ _ _ _ _ _ _ _ _ _ _ _ _ _ _ _ _ ?k1 ?k2 ?k3 ?k4 ?k5 ?kK ?kd ?ku ?_; (case k1 => k_asm); (case k2 => k_asm); (case k3 => k_asm); (case k4 => k_asm); (case k5 => k_asm); (case kK => first | exact rfl | assumption); (case kd => ktr_room); (case ku => ktr_units); k_whole; intro xs dx k1 k2 k3 t1 t2 t3 h9 tk9 F9 N9 l9 l8; (try k_lt l9); (try dsimp only); (try k_fold))))
local macro_rules | `(tactic| walk_at "call type:collections.deque") => `(tactic| (k_here; k_dflt (refine' dq_make ?k1 ?k2 ?_; (case k1 => k_asm); (case k2 => k_asm); k_whole; intro q9 h9 F9 N9 l9; (try k_lt l9); (try dsimp only); (try k_fold))))
local macro_rules | `(tactic| k_all) => `(tactic| assumption)
/-- the lexer's dict as its maker leaves it -/
abbrev shI (P : Params) (k v : Nat → Tok) (wc : Str) (xs q1 q2 : Addr) (sv : Value) (ln : Int) (tl : Tok) (tok : Str) (tt : Tok) : Obj := dictOf
  [eN P k 0 "instream" (.ref xs), eN P k 1 "infile" .none, eN P k 2 "posix" (.bool true), eN P k 3 "eof" .none, eN P k 4 "commenters" (.str (S "#") (v 4)), eN P k 5 "wordchars" (.str wc (v 5)), eN P k 6 "whitespace" (.str (S " \t\r\n") (v 6)), eN P k 7 "whitespace_split" (.bool false),
   eN P k 8 "quotes" (.str (S "'\"") (v 8)), eN P k 9 "escape" (.str (S "\\") (v 9)), eN P k 10 "escapedquotes" (.str (S "\"") (v 10)), eN P k 11 "state" sv, eN P k 12 "pushback" (.ref q1), eN P k 13 "lineno" (.int ln tl), eN P k 14 "debug" (.int 0 (v 14)), eN P k 15 "token" (.str tok tt),
   eN P k 16 "filestack" (.ref q2), eN P k 17 "source" .none, eN P k 18 "_punctuation_chars" (.str (S "") (v 18))] 19
abbrev tkF (l : List Nat) (i : Nat) : Tok := l.getD i 0
abbrev wcS : Str := Str.ofString "abcdfeghijklmnopqrstuvwxyzABCDEFGHIJKLMNOPQRSTUVWXYZ0123456789_ßàáâãäåæçèéêëìíîïðñòóôõöøùúûüýþÿÀÁÂÃÄÅÆÇÈÉÊËÌÍÎÏÐÑÒÓÔÕÖØÙÚÛÜÝÞ"
theorem init692 (w : World) (ax da : Addr) (x : Str) (t : Tok) (rest : List (Addr × Obj)) (hne1 : ∀ q ∈ rest, q.1 ≠ ax) (hne2 : ∀ q ∈ rest, q.1 ≠ da) (hxd : @LT.lt Nat _ da ax)
   (p' : Program) (loose : List Str) (mean : ExcName → Option Value) (mg mb : Str → Option Value) (dp un : Nat) (gd : Option (List Code)) (cn : Str) (sc : Scope) (a : Addr) (ccd : Value) (cl : List (Str × Addr)) (outer : List Env) (A₀ : Around) (base h₀ : Heap) (L : Addr) (m : Str → Option Value) (s : Shared) (R : Result → Shared → Prop)
    (B : Below A₀ base outer h₀) (F : Fr h₀ L s.heap m) (X : (K w.params).In h₀) (N : News h₀ L s.heap ((ax, instObj 768 da) :: (da, emptyDict) :: rest)) (T : Top p' loose mean mg mb h₀) (hk : sc.kind = .function) (hd : dp + 8 < recursionLimit) (hu : un + 100 < cLine)
    (hret : ∀ xs dx q1 q2 k1 k2 k3 t1 t2 t3 k v ts tl tt h' tk', Fr h₀ L h' m → News h₀ L h' ((q2, deqObj) :: (q1, deqObj) :: (xs, instObj 633 dx) :: (dx, sioD w.params k1 k2 k3 t1 t2 t3 x 0) :: (ax, instObj 768 da) :: (da, shI w.params k v wcS xs q1 q2 (.str (S " ") ts) 1 tl (S "") tt) :: rest) →
      @LT.lt Nat _ ax dx → @LT.lt Nat _ dx xs → @LT.lt Nat _ xs q1 → @LT.lt Nat _ q1 q2 → R (.ok (.ret .none)) { s with heap := h', toks := tk' }) :
    codeAny (model PySem.Challenge.rw_mr0367_01.prog w) (ktrTop dp un gd cn sc L a ccd cl outer) (.call (.ref 692) ⟨[.ref ax, .str x t], [(S "posix", .bool true)]⟩) R s := by
  revert X
  k_fill
  intro X
  k_dflt (refine' enter (binds := [(S "self", .ref ax), (S "instream", .str x t), (S "infile", .none), (S "posix", .bool true), (S "punctuation_chars", .bool false)]) ?hp ?hb ?hsc ?k1 ?k2 ?k3 ?k4 ?k5 ?kA ?kF ?kK ?k6 ?k7 ?k8 ?k9 ?kB ?_ ?c2 ?c3 ?c4 ?c5; walk_at "my cases"; intro g L1 h1 FG F1 N1 B1 X1 T1; (try dsimp only); (try k_lift B1); (try k_fold))
  k_steps
  exact hret _ _ _ _ _ _ _ _ _ _ (tkF [_, _, _, _, _, _, _, _, _, _, _, _, _, _, _, _, _, _, _]) (tkF [0, 0, 0, 0, _, _, _, 0, _, _, _, 0, 0, 0, _, 0, 0, 0, _]) _ _ _ _ _ (by k_asm) (by k_asm) (by omega) (by omega) (by omega) (by omega)
end
section
theorem shx_makes (P : Params) : makesIn (K P) 768 = true := by kernel_rfl
theorem shx_init (P : Params) : findIn (K P) (.ref 768) "__init__" = some (some (.ref 692)) := by kernel_rfl
theorem shx_initfn (P : Params) : typeIn (K P) (.ref 692) = some (.type "function") := by kernel_rfl
theorem shx_make (w : World) (x : Str) (t : Tok) (news : List (Addr × Obj))
   (p' : Program) (loose : List Str) (mean : ExcName → Option Value) (mg mb : Str → Option Value) (dp un : Nat) (gd : Option (List Code)) (cn : Str) (sc : Scope) (a : Addr) (ccd : Value) (cl : List (Str × Addr)) (outer : List Env) (A₀ : Around) (base h₀ : Heap) (L : Addr) (m : Str → Option Value) (s : Shared) (Q E : Value → Shared → Prop)
    (B : Below A₀ base outer h₀) (F : Fr h₀ L s.heap m) (X : (K w.params).In h₀) (N : News h₀ L s.heap news) (T : Top p' loose mean mg mb h₀) (hk : sc.kind = .function) (hd : dp + 10 < recursionLimit) (hu : un + 110 < cLine)
    (hret : ∀ ax da xs dx q1 q2 k1 k2 k3 t1 t2 t3 k v ts tl tt h' tk', Fr h₀ L h' m → News h₀ L h' ((q2, deqObj) :: (q1, deqObj) :: (xs, instObj 633 dx) :: (dx, sioD w.params k1 k2 k3 t1 t2 t3 x 0) :: (ax, instObj 768 da) :: (da, shI w.params k v wcS xs q1 q2 (.str (S " ") ts) 1 tl (S "") tt) :: news) →
      (∀ p ∈ news, p.1 < da) → @LT.lt Nat _ da ax → @LT.lt Nat _ ax dx → @LT.lt Nat _ dx xs → @LT.lt Nat _ xs q1 → @LT.lt Nat _ q1 q2 → Q (.ref ax) { s with heap := h', toks := tk' }) :
    wpAny (model PySem.Challenge.rw_mr0367_01.prog w) (ktrTop dp un gd cn sc L a ccd cl outer) (call (.ref 768) [.str x t] [(S "posix", .bool true)]) Q E s := by
  refine wpAny_call (make_K F N (X.keeps F.keep) (shx_makes _) (shx_init _) (shx_initfn _) ?_)
  intro ax da h1 F1 N1 l1 l2
  rw [under_tc]
  exact init692 w ax da x t news (fun q hq => Nat.ne_of_lt (Nat.lt_trans (l1 q hq) l2)) (fun q hq => Nat.ne_of_lt (l1 q hq)) l2 p' loose mean mg mb (dp + 1) (un + 1) gd cn sc a ccd cl outer A₀ base h₀ L m { s with heap := h1 } _ B F1 X N1 T hk (by omega) (by omega)
    (fun xs dx q1 q2 k1 k2 k3 t1 t2 t3 k v ts tl tt h' tk' F' N' o1 o2 o3 o4 => ⟨rfl, hret ax da xs dx q1 q2 k1 k2 k3 t1 t2 t3 k v ts tl tt h' tk' F' N' l1 l2 o1 o2 o3 o4⟩)
section
variable {w : World} {A A₀ : Around} {s : Shared} {k : Frag} {L a : Addr} {h₀ base : Heap} {m mg mb : Str → Option Value} {news : List (Addr × Obj)} {p : Program} {loose : List Str} {mean : ExcName → Option Value} {cn : Str} {cs : Scope} {ccd : Value}
/-- a def of the text is entered from the top def: what it calls may have caught an exception -/
theorem enterS {R : Result → Shared → Prop} {name qual : Str} {stm : Stmt} {pr : Arguments} {b : List Stmt} {sc : Scope} {dV kV doc pm cdv ct oc : Value} {an od : Option Addr} {osl : Array (Option Value)} {f : Addr} {args : Args} {binds : List (Str × Value)}
    (hp : fParams stm = pr) (hb : fBody stm = b) (hsc : fScope stm = sc)
    (B : Below A₀ base [] h₀) (F : Fr h₀ L s.heap m) (X₀ : k.In h₀) (N : News h₀ L s.heap news) (T : Top p loose mean mg mb h₀) (hA : A.frames = some [envOf cn cs L a ccd])
    (ho : k.lookup f = some ⟨oc, od, .func (fnS stm name qual dV kV doc pm an cdv ct), osl⟩) (hcd : codeIn k cdv qual = true) (hroom : A.depth < recursionLimit)
    (hbind : BindsTo s (fnS stm name qual dV kV doc pm an cdv ct) args binds) (hloc : ∀ y ∈ binds, sc.names.lookup y.1 = some .local)
    (h : ∀ g L' h₁, Fr h₀ L g m → Fr g L' h₁ (fun y => binds.reverse.lookup y) → News g L' h₁ news → Below A base [envOf cn cs L a ccd] g → k.In g → Top p loose mean mg mb g → KtsDicts ([envOf cn cs L a ccd].filterMap (·.frame)) g →
      wpAny (model PySem.Challenge.rw_mr0367_01.prog w) (A.deeper (envOf qual sc L' f cdv)) (execs b (envOf qual sc L' f cdv))
        (fun fl s' => LeaveS0 ([envOf cn cs L a ccd].filterMap (·.frame)) h₀ L m g R (match fl with | .ret v => v | _ => .none) s')
        (fun e s' => wpAny (model PySem.Challenge.rw_mr0367_01.prog w) (A.deeper (envOf qual sc L' f cdv)) (leaving (envOf qual sc L' f cdv) e) (fun _ s'' => R (.error e) s'') (fun e' s'' => R (.error e') s'') s')
        { s with heap := h₁, toks := s.toks + binds.length })
    (hck : cs.kind = .function) (hco : sc.isCoroutine = false) (hgen : sc.isGenerator = false) (hk : sc.kind = .function)
    (hcell : ∀ x ∈ sc.names, x.2 ≠ .cell) : codeAny (model PySem.Challenge.rw_mr0367_01.prog w) A (.call (.ref f) args) R s := by
  subst hp hb hsc
  exact code_defS0 B F X₀ N T hA ho hcd hroom hbind hloc h hck hco hgen hk hcell
end
local macro_rules | `(tactic| walk_at "my cases") => `(tactic| ((case kA => exact rfl); (case kK => assumption); (case k1 => k_asm); (case k2 => k_asm); (case k3 => k_asm); (case k4 => k_asm); (case k5 => k_asm); (case k6 => k_is); (case hp => (conv => lhs; whnf)); (case hb => (conv => lhs; whnf)); (case hsc => (conv => lhs; whnf)); (case k7 => k_is); (case k8 => ktr_room); (try (case k9 => first | exact bindsTo_peek (Frag.In.keeps (by assumption) (Fr.keep (by assumption))) (fun _ => by kernel_rfl) | exact BindsTo.of_eq rfl)); (case c5 => decide); (case kB => exact locs rfl); (case c2 => exact rfl); (case c3 => exact rfl); (case c4 => exact rfl); k_whole))
local macro_rules | `(tactic| k_all) => `(tactic| first | assumption | (exact fun q hq => Nat.ne_of_lt (by have := ‹∀ p ∈ _, p.1 < _› q hq; omega)))
local macro_rules | `(tactic| walk_at "my steps") => `(tactic| repeat' ((fail_if_success (with_reducible show wpAny _ _ (call (Value.ref 768) _ _) _ _ _)); (first | (k_unfold; (try dsimp only)) | (k_end; wrow_close) | walk1 | (dsimp only; walk1) | (leave1; walk_say "STEP leave1"; try dsimp only) | fail "no step")))
theorem mem_rot {q a b c d e f : Addr × Obj} {r : List (Addr × Obj)} (h : q ∈ c :: d :: e :: f :: a :: b :: r) : q ∈ a :: b :: c :: d :: e :: f :: r := by
  simp only [List.mem_cons] at h ⊢
  rcases h with h | h | h | h | h | h | h
  · exact .inr (.inr (.inl h))
  · exact .inr (.inr (.inr (.inl h)))
  · exact .inr (.inr (.inr (.inr (.inl h))))
  · exact .inr (.inr (.inr (.inr (.inr (.inl h)))))
  · exact .inl h
  · exact .inr (.inl h)
  · exact .inr (.inr (.inr (.inr (.inr (.inr h)))))
theorem mem_skip {q a b c : Addr × Obj} {r : List (Addr × Obj)} (h : q ∈ a :: r) : q ∈ a :: b :: c :: r := by
  simp only [List.mem_cons] at h ⊢
  rcases h with h | h
  · exact .inl h
  · exact .inr (.inr (.inr h))
theorem ne_gt {a b : Addr} (h : @LT.lt Nat _ b a) : a ≠ b := Nat.ne_of_gt h
theorem ne_lt {a b : Addr} (h : @LT.lt Nat _ a b) : a ≠ b := Nat.ne_of_lt h
abbrev fix4 (v : Nat → Tok) (t : Tok) : Nat → Tok
  | 4 => t
  | n => v n
theorem split_ok (w : World) (line : Str) (t : Tok) (ws : List (List Nat)) (hl : line.length ≤ 10000) (hL : Lx false line.cps.toList ws) (hws : ws.length ≤ 1000) (news : List (Addr × Obj))
   (p' : Program) (loose : List Str) (mean : ExcName → Option Value) (mg mb : Str → Option Value) (dp un : Nat) (gd : Option (List Code)) (cn : Str) (cs : Scope) (a : Addr) (ccd : Value) (A₀ : Around) (base h₀ : Heap) (L : Addr) (m : Str → Option Value) (s : Shared) (Q E : Value → Shared → Prop)
    (B : Below A₀ base [] h₀) (F : Fr h₀ L s.heap m) (X : (K w.params).In h₀) (N : News h₀ L s.heap news) (T : Top p' loose mean mg mb h₀) (hk : cs.kind = .function) (hd : dp + 20 < recursionLimit) (hu : un + 300 < cLine)
    (hret : ∀ lS acc' c' h' tk', Fr h₀ L h' m → News h₀ L h' ((lS, lstO acc' c') :: news) → Txts acc'.toList ws → (∀ q ∈ news, q.1 < lS) → Q (.ref lS) { s with heap := h', toks := tk' }) :
    wpAny (model PySem.Challenge.rw_mr0367_01.prog w) (ktrTop dp un gd cn cs L a ccd [] []) (call (.ref 780) [.str line t]) Q E s := by
  revert X
  k_fill
  intro X
  refine wpAny_call ?_
  k_dflt (refine' enterS (binds := [(S "s", .str line t), (S "comments", .bool false), (S "posix", .bool true)]) ?hp ?hb ?hsc ?k1 ?k2 ?k3 ?k4 ?k5 ?kA ?k6 ?k7 ?k8 ?k9 ?kB ?_ ?kK ?c2 ?c3 ?c4 ?c5; walk_at "my cases"; intro g L1 h1 FG F1 N1 B1 X1 T1 D1; (try dsimp only); (try k_lift B1); (try k_fold))
  walk_at "my steps"
  k_dflt refine shx_make w line t news _ _ _ _ _ _ _ _ _ _ _ _ _ _ _ _ _ _ _ _ _ _ B1 F1 X1 N1 T1 rfl (by ktr_room) (by ktr_units) ?_
  intro ax da xs dx q1 q2 k1 k2 k3 t1 t2 t3 k v ts tl tt h9 tk9 F9 N9 l9 o1 o2 o3 o4 o5
  (try dsimp only)
  (try k_fold)
  k_steps
  rename News g L1 _ _ => N4
  rename Fr g L1 _ _ => F4
  refine list_ok w _ _ _ _ _ _ _ _ _ _ _ _ line 0 _ (fix4 _ _) wcS _ 1 _ _ ((_, deqObj) :: (_, deqObj) :: news) hl ?hq1 ?hq2 ?r1 ?r2 ?r3 ?r4 ?o1 ?o2 ?o3 ?hwc ws hL hws _ _ _ _ _ _ _ _ _ _ _ _ _ _ _ _ _ _ _ _ _ B1 F4 X1 (fun q hq => N4 q (mem_rot hq)) T1 rfl ?kd ?ku ?hp ?_
  case hq1 => exact .tail _ (.head _)
  case hq2 => exact .head _
  case r1 => exact ne1 (ne_gt (by omega)) (ne1 (ne_gt (by omega)) fun q hq => ne_lt (Nat.lt_of_lt_of_le (l9 q hq) (by omega)))
  case r2 => exact ne1 (ne_gt (by omega)) (ne1 (ne_gt (by omega)) fun q hq => ne_lt (Nat.lt_of_lt_of_le (l9 q hq) (by omega)))
  case r3 => exact ne1 (ne_gt (by omega)) (ne1 (ne_gt (by omega)) fun q hq => ne_lt (Nat.lt_of_lt_of_le (l9 q hq) (by omega)))
  case r4 => exact ne1 (ne_gt (by omega)) (ne1 (ne_gt (by omega)) fun q hq => ne_lt (Nat.lt_of_lt_of_le (l9 q hq) (by omega)))
  case o1 => assumption
  case o2 => assumption
  case o3 => assumption
  case hwc => decide +kernel
  case kd => ktr_room
  case ku => ktr_units
  case hp => exact Nat.zero_le _
  intro lS g' acc' c' h' tk' KT B' F' N' hT hlt
  exact ⟨g', L1, _, _, KT, F', N', fun F'' N'' => hret lS acc' c' h' tk' F'' (fun q hq => N'' q (mem_skip hq)) hT fun q hq => hlt q (.tail _ (.tail _ hq))⟩
end
section
section
variable {w : World} {A : Around} {s : Shared} {k : Frag} {mg mb : Str → Option Value} {p : Program} {loose : List Str} {mean : ExcName → Option Value}
/-- a def of the text is entered from anywhere -/
theorem enterA {R : Result → Shared → Prop} {name qual : Str} {stm : Stmt} {pr : Arguments} {b : List Stmt} {sc : Scope} {dV kV doc pm cdv ct oc : Value} {an od : Option Addr} {osl : Array (Option Value)} {f : Addr} {args : Args} {binds : List (Str × Value)}
    (hp : fParams stm = pr) (hb : fBody stm = b) (hsc : fScope stm = sc)
    (X : k.In s.heap) (T : Top p loose mean mg mb s.heap)
    (ho : k.lookup f = some ⟨oc, od, .func (fnS stm name qual dV kV doc pm an cdv ct), osl⟩) (hcd : codeIn k cdv qual = true) (hroom : A.depth < recursionLimit)
    (hbind : BindsTo s (fnS stm name qual dV kV doc pm an cdv ct) args binds) (hloc : ∀ y ∈ binds, sc.names.lookup y.1 = some .local)
    (h : ∀ L' h₁, Fr s.heap L' h₁ (fun y => binds.reverse.lookup y) → News s.heap L' h₁ [] →
      wpAny (model PySem.Challenge.rw_mr0367_01.prog w) (A.deeper (envOf qual sc L' f cdv)) (execs b (envOf qual sc L' f cdv))
        (fun fl s' => R (.ok (.ret (match fl with | .ret v => v | _ => .none))) s')
        (fun e s' => wpAny (model PySem.Challenge.rw_mr0367_01.prog w) (A.deeper (envOf qual sc L' f cdv)) (leaving (envOf qual sc L' f cdv) e) (fun _ s'' => R (.error e) s'') (fun e' s'' => R (.error e') s'') s')
        { s with heap := h₁, toks := s.toks + binds.length })
    (hco : sc.isCoroutine = false) (hgen : sc.isGenerator = false) (hk : sc.kind = .function)
    (hcell : ∀ x ∈ sc.names, x.2 ≠ .cell) : codeAny (model PySem.Challenge.rw_mr0367_01.prog w) A (.call (.ref f) args) R s := by
  subst hp hb hsc
  refine codeAny_call_def (fd := fnS stm name qual dV kV doc pm an cdv ct) (body := fBody stm) (binds := binds) hroom (X _ _ ho) rfl T.nolimit (codeRec_of X hcd) rfl hbind hcell hloc (fun h₁ hns hk₁ => ?_) hco hgen hk
  exact h _ _ ⟨hns, hk₁, Nat.le_refl _⟩ fun q hq => nomatch hq
end
/-- a call's end: the quoted text, and all that was kept -/
def EndsQ (s : Shared) (x : Str) (v : Value) (s' : Shared) : Prop := (∃ t', v = .str (quoteF x) t') ∧ Keeps s s'
theorem endsQ {s : Shared} {x y : Str} {t tk : Tok} {L : Addr} {h' : Heap} {m : Str → Option Value} (e : y = quoteF x) (F : Fr s.heap L h' m) : EndsQ s x (.str y t) { s with heap := h', toks := tk } :=
  ⟨⟨t, by rw [e]⟩, h', tk, rfl, F.keep⟩
local macro_rules | `(tactic| walk_at "my casesA") => `(tactic| ((case k3 => k_asm); (case k5 => k_asm); (case k6 => k_is); (case hp => (conv => lhs; whnf)); (case hb => (conv => lhs; whnf)); (case hsc => (conv => lhs; whnf)); (case k7 => k_is); (case k8 => assumption); (case k9 => exact BindsTo.of_eq rfl); (case c5 => decide); (case kB => exact locs rfl); (case c2 => exact rfl); (case c3 => exact rfl); (case c4 => exact rfl); k_whole))
local macro_rules | `(tactic| walk_at "callWith ref") => `(tactic| (k_here; k_dflt (refine' callWith_788 ?k1 ?_; (case k1 => k_asm); k_whole)))
local macro_rules | `(tactic| walk_at "call ref") => `(tactic| (k_here; k_dflt (refine' find_wp ?k1 ?k2 ?k3 ?k4 ?k5 ?k6 ?_ ?_; (case k1 => k_asm); (case k2 => k_asm); (case k3 => k_asm); (case k4 => (show 1 ≤ PySem.Str.length _); omega); (case k5 => (show PySem.Str.length _ < _); omega); (case k6 => assumption); k_whole); (first | (intro hbare; (try dsimp only)) | skip)))
local macro_rules | `(tactic| walk_at "binaryOp Add str str") => `(tactic| (refine' PySem.W.KXadd.add (K := 5001) (L := 5001) ?a ?b ?c ?_; (case a => (first | exact apos_len | exact apos_len2 (replace_len (by assumption)))); (case b => (first | exact apos_len | exact Nat.le_succ_of_le (replace_len (by assumption)))); (case c => decide); intro t9 k9 l9; clear l9))
theorem quote_any (w : World) (x : Str) (t : Tok) (hok : okS x) (hlen : x.length ≤ 1000) {p : Program} {loose : List Str} {mean : ExcName → Option Value} {mg mb : Str → Option Value} {dp un : Nat} {fr : Option (List Env)} {gd : Option (List Code)} {s : Shared} {E : Value → Shared → Prop}
    (X : (K w.params).In s.heap) (T : Top p loose mean mg mb s.heap) (hd : dp < recursionLimit) (hu : un + 20 < cLine) :
    wpAny (model PySem.Challenge.rw_mr0367_01.prog w) { handled := none, depth := dp, frames := fr, guards := gd, units := un } (call (.ref 795) [.str x t]) (EndsQ s x) E s := by
  revert X
  k_fill
  intro X
  refine wpAny_call ?_
  k_dflt (refine' enterA (binds := [(S "s", .str x t)]) ?hp ?hb ?hsc ?k3 ?k5 ?k6 ?k7 ?k8 ?k9 ?kB ?_ ?c2 ?c3 ?c4 ?c5; walk_at "my casesA"; intro L1 h1 F1 N1; (try dsimp only); (try k_fold))
  k_steps
  all_goals (refine endsQ ?_ (by k_asm))
  all_goals first | exact quoteF_empty (by assumption) | exact quoteF_bare (by assumption) (by assumption) | exact quoteF_rep (by assumption) (by assumption)
end
section
def joinL : List (List Nat) → List Nat
  | [] => []
  | [x] => quoteL x
  | x :: y :: r => quoteL x ++ 32 :: joinL (y :: r)
theorem join_texts0 : ∀ ws : List (List Nat), Str.join (Str.ofString " ") (ws.map fun x => quoteF ⟨x.toArray⟩) = ⟨(joinL ws).toArray⟩
  | [] => by decide +kernel
  | [x] => rfl
  | x :: y :: r => by
    have ih := join_texts0 (y :: r)
    have e : Str.join (Str.ofString " ") ((x :: y :: r).map fun x => quoteF ⟨x.toArray⟩) = quoteF ⟨x.toArray⟩ ++ Str.ofString " " ++ Str.join (Str.ofString " ") ((y :: r).map fun x => quoteF ⟨x.toArray⟩) := rfl
    rw [e, ih, show Str.ofString " " = ⟨#[32]⟩ from by decide +kernel]
    apply Str.ext'
    show (quoteL x).toArray ++ #[32] ++ (joinL (y :: r)).toArray = (quoteL x ++ 32 :: joinL (y :: r)).toArray
    simp
theorem join_texts (ws : List (List Nat)) : Txt.join (Str.ofString " ") (ws.map fun x => quoteF ⟨x.toArray⟩) = ⟨(joinL ws).toArray⟩ := by
  show Builtin.Str.glued _ _ = _
  rw [StrLaws.glued_eq_join, join_texts0]
theorem Txts.at {vs : List Value} {ws : List (List Nat)} (h : Txts vs ws) : ∀ {i : Nat} {v : Value}, vs[i]? = some v → ∃ t, v = .str ⟨(ws.getD i []).toArray⟩ t ∧ ws.getD i [] ∈ ws := by
  induction h with
  | nil => intro i v e; cases e
  | cons _ ih =>
    intro i v e
    cases i with
    | zero => cases e; exact ⟨_, rfl, .head _⟩
    | succ i =>
      obtain ⟨t, e1, e2⟩ := ih (i := i) (v := v) (by simpa using e)
      exact ⟨t, by simpa using e1, List.mem_cons_of_mem _ (by simpa using e2)⟩
theorem quoteL_length (l : List Nat) : (quoteL l).length ≤ 5 * l.length + 2 := by
  unfold quoteL
  have := repL_length l
  split
  · simp
  · split
    · omega
    · simp; omega
theorem joinOk_ws (ws : List (List Nat)) (h : ∀ x ∈ ws, x.length ≤ 1000) (hn : ws.length ≤ 100) : JoinOk (Str.ofString " ") (ws.map fun x => quoteF ⟨x.toArray⟩) = true := by
  refine joinOk_of ?_
  have hs : ∀ l : List (List Nat), (∀ x ∈ l, x.length ≤ 1000) → ((l.map fun x => quoteF ⟨x.toArray⟩).map (·.length)).sum ≤ 5002 * l.length := by
    intro l
    induction l with
    | nil => intro _; exact Nat.le_refl _
    | cons x r ih =>
      intro hx
      have h1 := ih fun y hy => hx y (.tail _ hy)
      have h2 := quoteL_length x
      have h3 := hx x (.head _)
      have e : (quoteF ⟨x.toArray⟩).length = (quoteL x).length := by
        show ((quoteL x.toArray.toList).toArray).size = _
        simp
      simp only [List.map_cons, List.sum_cons, List.length_cons]
      rw [e]
      omega
  have h1 := hs ws h
  have h2 : (Str.ofString " ").length = 1 := by decide +kernel
  rw [h2, List.length_map]
  omega
theorem code786 (P : Params) : ∃ vs, (K P).lookup 786 = some ⟨.type "code", none, .fields vs, #[]⟩ ∧ vs[11]? = some (.ref 782) ∧ vs.getD 11 .none = .ref 782 ∧ (∃ file tf, vs.getD 18 .none = .str file tf) ∧ (∃ flags tg, vs.getD 7 .none = .int flags tg) ∧ (∃ inF, vs.getD 9 .none = .bool inF) ∧ (∃ text tt, vs.getD 10 .none = .int text tt) :=
  ⟨_, rfl, rfl, rfl, ⟨_, _, rfl⟩, ⟨_, _, rfl⟩, ⟨_, rfl⟩, ⟨_, _, rfl⟩⟩
theorem grown_get {g : Heap} {a : Addr} {ps : Array Value} (h : a < g.objs.size) : (regrown g a ps).get? a = some (tabO ps) := by
  obtain ⟨objs, l⟩ := g
  unfold regrown Heap.update Heap.get?
  have : (objs.modify a fun _ => ({ cls := .none, data := .fields ps } : Obj))[a]? = some { cls := .none, data := .fields ps } := by
    have h' : a < objs.size := h
    rw [Array.getElem?_modify]
    simp [h']
  simp only [this]
theorem grown_ne {g : Heap} {a b : Addr} {ps : Array Value} (h : b ≠ a) : (regrown g a ps).get? b = g.get? b := Heap.get?_update_other _ _ (Ne.symm h)
theorem grown_size {g : Heap} {a : Addr} {ps : Array Value} : (regrown g a ps).objs.size = g.objs.size := Heap.size_after_update ..
end
section
theorem gname {M : Model} {A : Around} {E : Value → Shared → Prop} {s : Shared} {k : Frag} {mg mb : Str → Option Value} {p : Program} {loose : List Str} {mean : ExcName → Option Value} {x : Str} {pos : Pos} {v : Value} {Q : Value → Shared → Prop} {scope : Scope} {cl : List (Str × Addr)} {C : Addr} {code : Value} {env : Env} (X : k.In s.heap) (T : Top p loose mean mg mb s.heap) (e : nsIn k mainGlobals x = some (some v)) (h : Q v s)
    (hg : env.globals = mainGlobals := by rfl) (hk : scope.kind = .function := by rfl) (hx : (genEnv scope cl C code builtinsNs env).kindOf x = some .globalImplicit := by rfl) (hd : (x == ("__debug__" : Str)) = false := by decide) :
    wpAny M A (eval (.Name x pos) (genEnv scope cl C code builtinsNs env)) Q E s :=
  Name_function_global hk hx (loadGlobal_global (env := genEnv scope cl C code builtinsNs env) (show s.heap.Ns env.globals mg from hg ▸ T.g) (mg_of X T.g e) h) hd
theorem callWith_795 {w : World} {A : Around} {E : Value → Shared → Prop} {s : Shared} {env : Env} {pos : Pos} {first : List Value} {Q : Value → Shared → Prop} {e : Expr} {rest : List Expr}
    (h : wpAny (model PySem.Challenge.rw_mr0367_01.prog w) A (spliced (backTo pos (starEach (e :: rest) env))) (fun vs s₁ => (K w.params).In s₁.heap ∧ wpAny (model PySem.Challenge.rw_mr0367_01.prog w) A (call (.ref 795) (first ++ vs)) Q E s₁) E s)
    (he : starEach (e :: rest) env = (false, eval e env) :: starEach rest env := by rfl) (hplain : (backTo pos (starEach rest env)).any (·.1) = false := by rfl) :
    wpAny (model PySem.Challenge.rw_mr0367_01.prog w) A (callWith pos (.ref 795) first (backTo pos (starEach (e :: rest) env)) []) Q E s := by
  rw [he] at h ⊢
  exact callWith_of (P := fun h => (K w.params).In h) (by show ((false || (backTo pos (starEach rest env)).any (·.1)) || false) = false; rw [hplain]; rfl) (fun h X => ⟨.frame, .inl rfl, Looks.of_peek X (by kernel_rfl)⟩) (evalArgs_plain h)
theorem okS_of {l : List Nat} (h : ∀ c ∈ l, okC c = true) : okS ⟨l.toArray⟩ := by
  intro i hi
  have h' : i < l.length := by simpa using hi
  have : (l.toArray).getD i 0 ∈ l := by
    simp [Array.getD_eq_getD_getElem?, h']
  exact h _ this
theorem nm_quote (P : Params) : nsIn (K P) mainGlobals (Str.ofString "quote") = some (some (.ref 795)) := by kernel_rfl
theorem join_ok (w : World) (l : Addr) (acc : Array Value) (c : Nat) (ws : List (List Nat)) (hT : Txts acc.toList ws) (hw : ∀ x ∈ ws, (∀ c ∈ x, okC c = true) ∧ x.length ≤ 1000) (hn : ws.length ≤ 100) (news : List (Addr × Obj)) (hnd : ∀ q ∈ news, q.1 ≠ 782)
   (p' : Program) (loose : List Str) (mean : ExcName → Option Value) (mg mb : Str → Option Value) (dp un : Nat) (gd : Option (List Code)) (cn : Str) (sc : Scope) (a : Addr) (ccd : Value) (cl : List (Str × Addr)) (outer : List Env) (A₀ : Around) (base h₀ : Heap) (L : Addr) (m : Str → Option Value) (s : Shared) (Q E : Value → Shared → Prop)
    (B : Below A₀ base outer h₀) (F : Fr h₀ L s.heap m) (X : (K w.params).In h₀) (N : News h₀ L s.heap ((782, tabO #[]) :: news)) (hl : (l, lstO acc c) ∈ news) (T : Top p' loose mean mg mb h₀) (hk : sc.kind = .function) (hd : dp + 20 < recursionLimit) (hu : un + 300 < cLine) (hg : AllBare s.gens)
    (hret : ∀ t s' ps, AllBare s'.gens → s'.os = s.os → Fr h₀ L s'.heap m → News h₀ L s'.heap ((782, tabO ps) :: news) → Q (.str ⟨(joinL ws).toArray⟩ t) s') :
    wpAny (model PySem.Challenge.rw_mr0367_01.prog w) (ktrTop dp un gd cn sc L a ccd cl outer) (call (.ref 787) [.ref l]) Q E s := by
  have nq := nm_quote w.params
  have c786 := code786 w.params
  revert X nq c786
  k_fill
  intro X nq c786
  refine wpAny_call ?_
  k_dflt (refine' enter (binds := [(S "split_command", .ref l)]) ?hp ?hb ?hsc ?k1 ?k2 ?k3 ?k4 ?k5 ?kA ?kF ?kK ?k6 ?k7 ?k8 ?k9 ?kB ?_ ?c2 ?c3 ?c4 ?c5; walk_at "my cases"; intro g L1 h1 FG F1 N1 B1 X1 T1; (try dsimp only); (try k_lift B1); (try k_fold))
  k_steps
  obtain ⟨vs, ho, v1, v2, ⟨f1, f2, v3⟩, ⟨f3, f4, v4⟩, ⟨f5, v5⟩, ⟨f6, f7, v6⟩⟩ := c786
  have gP : g.get? 782 = none := (N1 _ (.head _)).2.2
  have gc := X1 _ _ ho
  have hlt : 782 < g.objs.size := Nat.lt_trans (by decide : 782 < 786) (Heap.lt_size gc)
  have st : ∀ b o, g.get? b = some o → (regrown g 782 #[]).get? b = some o := fun b o e => by
    rw [grown_ne (fun z => by rw [z, gP] at e; cases e)]; exact e
  have st2 : ∀ ps b o, g.get? b = some o → (regrown (regrown g 782 #[]) 782 ps).get? b = some o := fun ps b o e => by
    rw [grown_ne (fun z => by rw [z, gP] at e; cases e)]; exact st b o e
  have F2 : Fr (regrown g 782 #[]) L1 h1 _ := ⟨F1.ns, fun b o e => by
    by_cases z : b = 782
    · subst z
      rw [grown_get hlt] at e
      cases e
      exact (N1 _ (.head _)).1
    · rw [grown_ne z] at e
      exact F1.keep b o e, by rw [grown_size]; exact F1.above⟩
  have T2 := T1.keeps st
  have hb : Based (regrown g 782 #[]) (regrown g 782 #[]) 786 782 #[] := Based.start
    ⟨_, vs, f1, f2, f3, f4, f5, f6, f7, tabO #[], st _ _ gc, rfl, v2, v3, v4, v5, v6, grown_get hlt, rfl, by trivial, by decide⟩
    ⟨⟨_, vs, st _ _ gc, rfl, rfl, v1⟩, grown_get hlt⟩ (by decide)
  obtain ⟨bm, ob, M⟩ := bmod_of_top T2
  refine GeneratorExp_list_rowsF (L := L1) (m := fun y => [(S "split_command", Value.ref l)].reverse.lookup y) hb M rfl rfl rfl rfl rfl (by decide) rfl rfl rfl ?room ?it ?fold
  case room => ktr_room
  case fold => intro _; rfl
  have hL1 := F1.ns.lt
  refine wpAny_Name (wpAny_loadName_local rfl rfl F1.ns rfl ?_) (by decide)
  refine ⟨l, acc, rfl, ⟨_, (N1 _ (.tail _ hl)).1, rfl, c, rfl⟩, F2, hg, T2.nolimit.keeps F2.keep, h1.objs.size - 1, fun _ => true, fun i y => ∃ u, y = .str (quoteF ⟨(ws.getD i []).toArray⟩) u, Nat.le_sub_one_of_lt hL1, Nat.sub_one_lt_of_lt hL1, ?tests, ?elt, ?cont⟩
  case tests =>
    intro c' C A' E' i v t m₂ hA hD hU hi hF hm hLC hkeep
    exact wpAny_pure ⟨rfl, t.heap, t.toks, rfl, fun _ _ e => e⟩
  case elt =>
    intro c' C A' E' i v t m₂ hA hD hU hi hp hF hm hLC hkeep
    obtain ⟨tv, rfl, hmem⟩ := hT.at (by simpa using hi)
    obtain ⟨hokx, hlenx⟩ := hw _ hmem
    have Xt : (K w.params).In t.heap := fun b o e => hF.keep b o (st2 _ b o (X1 b o e))
    have Tt := T1.keeps (fun b o e => hF.keep b o (st2 _ b o e))
    obtain ⟨ah, ad, af, ag, au⟩ := A'
    dsimp only at hA hD hU
    subst hA
    refine wpAny_Call_NameR (gname Xt Tt nq ?_)
    refine callWith_795 ?_
    walk1
    refine ldVarG hF hm (spliced_none ⟨Xt, ?_⟩)
    have hD' : ad ≤ dp + 1 + 1 := hD
    have hU' : au ≤ un + 3 + 8 := hU
    exact quote_any w _ tv (okS_of hokx) (by show (ws.getD i []).toArray.size ≤ 1000; simpa using hlenx) Xt Tt (by omega) (by omega)
  case cont =>
    intro c' a5 s5 hb5 F5 hg5 ho5 hkeep5 G5
    refine spliced_none ?_
    have hpa : ∀ n, passing (fun _ => true) n 0 = List.range n := fun n => by simp [passing]
    rw [hpa] at G5
    have hsz : acc.size = ws.length := by have := hT.len; simpa using this
    have hmap : (List.range (List.range acc.size).length).map (fun j => quoteF ⟨(ws.getD j []).toArray⟩) = ws.map fun x => quoteF ⟨x.toArray⟩ := by
      rw [List.length_range, hsz]
      apply List.ext_getElem
      · simp
      · intro i h1 h2
        have h3 : i < ws.length := by simpa using h2
        simp [h3]
    refine join_rowsK F5 hg5 G5 (Nat.le_sub_one_of_lt hL1) (fun j => quoteF ⟨(ws.getD j []).toArray⟩) ?htx ?hok ?hQ ?hsz
    case htx =>
      rintro j v ⟨i, hi, u, rfl⟩
      have : i = j := by
        rw [List.getElem?_range] at hi
        · exact (Option.some.inj hi).symm
        · exact (List.getElem?_eq_some_iff.mp hi).1 |> fun z => by simpa using z
      subst this
      exact ⟨u, rfl⟩
    case hok =>
      rw [hmap]
      exact joinOk_ws ws (fun x hx => (hw x hx).2) hn
    case hsz =>
      rw [List.length_range, hsz]
      exact Nat.le_trans hn (by decide)
    case hQ =>
      intro s' t' F' hg' ho' hk'
      rw [hmap, join_texts]
      have hps : ∃ ps, Fr (regrown (regrown g 782 #[]) 782 ps) L1 s'.heap (fun y => [(S "split_command", Value.ref l)].reverse.lookup y) := ⟨_, F'⟩
      obtain ⟨ps, F9⟩ := hps
      refine ⟨L1, _, (782, tabO ps) :: news, ⟨F9.ns, fun b o e => F9.keep b o (st2 _ b o e), F1.above⟩, fun q hq => ?_, fun F6 N6 => hret t' s' ps hg' (ho'.trans ho5) F6 N6⟩
      rcases List.mem_cons.mp hq with rfl | hq
      · exact ⟨F9.keep _ _ (grown_get (by rw [grown_size]; exact hlt)), (N1 _ (.head _)).2⟩
      · exact ⟨hk' _ _ (Nat.le_sub_one_of_lt (Heap.lt_size (N1 q (.tail _ hq)).1)) (hkeep5 _ _ (hnd q hq) (N1 q (.tail _ hq)).1), (N1 q (.tail _ hq)).2.1, (N1 q (.tail _ hq)).2.2⟩
end
section
/-- a turn's end -/
def TurnEnd (P : Shared → Prop) (s : Shared) : Prop := P s
section
variable {prog : Program} {w : World} {A : Around} {E : Value → Shared → Prop} {s : Shared} {env : Env} {Q : Flow → Shared → Prop}
/-- what a loop wants of its source and its turns -/
def LoopBy (prog : Program) (w : World) (A : Around) (env : Env) (x : Str) (px : Pos) (body : List Stmt) (Q : Flow → Shared → Prop) (it : Value) (s₂ : Shared) : Prop :=
  ∃ (I : Addr) (fp wr : List Addr) (n : Nat) (P : Nat → Value → Prop) (St : Nat → Heap → Prop) (J : Nat → Shared → Prop), it = .ref I ∧ Walks prog w A I fp wr n P St ∧ J 0 s₂ ∧ (∀ i s, J i s → St i s.heap) ∧
    (∀ i s, i < n → J i s → ∀ v h₁ tk₁, P i v → St (i + 1) h₁ → (∀ b o, b ∉ wr → s.heap.get? b = some o → h₁.get? b = some o) →
      wpAny (model prog w) A (assign (.Name x px) env v) (fun _ s₃ => wpAny (model prog w) A (execs body env) (fun f s₄ => match f with
        | .next | .cont => TurnEnd (J (i + 1)) s₄
        | .brk => Q .next s₄
        | .ret v => Q (.ret v) s₄) (fun _ _ => False) s₃) (fun _ _ => False) { s with heap := h₁, toks := tk₁ }) ∧
    ∀ s, J n s → ∀ h₁ tk₁, (∀ b o, b ∉ wr → s.heap.get? b = some o → h₁.get? b = some o) → Q .next { s with heap := h₁, toks := tk₁ }
/-- a for that raises nothing, by an invariant -/
theorem for_by {x : Str} {px pos : Pos} {iter : Expr} {body : List Stmt}
    (h : wpAny (model prog w) A (eval iter env) (fun xv s₁ => wpAny (model prog w) A (pyIter xv) (LoopBy prog w A env x px body Q) E s₁) E s)
    (hs : ∀ x, foldedSetIterable iter env x = pure x) : wpAny (model prog w) A (exec (.For (.Name x px) iter body [] pos) env) Q E s := by
  refine wpAny_For (wpAny_mono h (fun xv s₁ h₁ => wpAny_mono h₁ (fun it s₂ h₂ => ?_) fun _ _ e => e) fun _ _ e => e) hs
  obtain ⟨I, fp, wr, n, P, St, J, rfl, W, h0, hSt, turn, fin⟩ := h₂
  refine codeAny_forLoop (fun k s' => ∃ i, i ≤ n ∧ k = n + 1 - i ∧ J i s') (fun k s' hk => ?_) (n + 1) ⟨0, Nat.zero_le _, rfl, h0⟩
  obtain ⟨i, hi, rfl, hJ⟩ := hk
  by_cases hlt : i < n
  · refine W.item i s' _ _ hlt (hSt i s' hJ) fun v h₁ tk₁ hP hst₁ hk₁ => ?_
    refine wpAny_mono (turn i s' hlt hJ v h₁ tk₁ hP hst₁ hk₁) (fun _ s₃ h₃ => wpAny_mono h₃ (fun f s₄ h₄ => ?_) fun _ _ x => x.elim) fun _ _ x => x.elim
    cases f with
    | next => exact ⟨n + 1 - (i + 1), by omega, i + 1, hlt, rfl, h₄⟩
    | cont => exact ⟨n + 1 - (i + 1), by omega, i + 1, hlt, rfl, h₄⟩
    | brk => exact h₄
    | ret v => exact h₄
  · have hin : i = n := by omega
    subst hin
    exact W.done s' _ _ (hSt i s' hJ) fun h₁ tk₁ hk₁ => wpAny_execs_nil (fin s' hJ h₁ tk₁ hk₁)
end
end
section
/-! what the row is, in plain words -/
abbrev Row := List (List Nat × Int)
def cntA (r : Row) (x : List Nat) : Nat := (r.filter fun p => aheadF p.1 x).length
def cntE (r : Row) (x : List Nat) : Nat := (r.filter fun p => p.1 == x).length
def putAt (r : Row) (j : Nat) (p : List Nat × Int) : Row := r.take j ++ p :: r.drop j
def stepR (r : Row) (x : List Nat) (k : Nat) : Row := if k % 2 = 0 then putAt r (cntA r x) (x, k) else putAt r (cntA r x + cntE r x) (x, k)
def rowOf (ws : List (List Nat)) : Nat → Row
  | 0 => []
  | i + 1 => stepR (rowOf ws i) (ws.getD i []) i
def Cell.wk (c : Cell) : List Nat × Int := (c.w.cps.toList, c.k)
def OkW (x : List Nat) : Prop := ∀ c ∈ x, okC c = true
def Sorted (r : Row) : Prop := r.Pairwise fun a b => ¬ quoteL b.1 < quoteL a.1
end
section
/-! the order of the quoted texts -/
theorem rep_lt : ∀ a b : List Nat, (repL a ++ [39] < repL b ++ [39]) ↔ (a ++ [39] < b ++ [39])
  | [], [] => Iff.rfl
  | [], d :: b => by
    show ([39] < ((if d = 39 then [39, 34, 39, 34, 39] else [d]) ++ repL b) ++ [39]) ↔ ([39] < d :: (b ++ [39]))
    by_cases h : d = 39
    · subst h
      rw [if_pos rfl]
      simp [List.cons_lt_cons_iff]
      cases b <;> exact List.nil_lt_cons _ _
    · rw [if_neg h]
      have h' : ¬ 39 = d := fun e => h e.symm
      simp [List.cons_lt_cons_iff, h']
  | c :: a, [] => by
    show (((if c = 39 then [39, 34, 39, 34, 39] else [c]) ++ repL a) ++ [39] < [39]) ↔ (c :: (a ++ [39]) < [39])
    by_cases h : c = 39
    · subst h
      rw [if_pos rfl]
      simp [List.cons_lt_cons_iff]
    · rw [if_neg h]
      simp [List.cons_lt_cons_iff, h]
  | c :: a, d :: b => by
    have ih := rep_lt a b
    show (((if c = 39 then [39, 34, 39, 34, 39] else [c]) ++ repL a) ++ [39] < ((if d = 39 then [39, 34, 39, 34, 39] else [d]) ++ repL b) ++ [39]) ↔ (c :: (a ++ [39]) < d :: (b ++ [39]))
    by_cases hc : c = 39
    · by_cases hd : d = 39
      · subst hc hd
        rw [if_pos rfl]
        simp only [List.cons_append, List.nil_append, List.cons_lt_cons_iff, Nat.lt_irrefl, true_and, false_or]
        exact ih
      · subst hc
        rw [if_pos rfl, if_neg hd]
        have h' : ¬ 39 = d := fun e => hd e.symm
        simp only [List.cons_append, List.nil_append, List.cons_lt_cons_iff, h', false_and, or_false]
    · by_cases hd : d = 39
      · subst hd
        rw [if_neg hc, if_pos rfl]
        simp only [List.cons_append, List.nil_append, List.cons_lt_cons_iff, hc, false_and, or_false]
      · rw [if_neg hc, if_neg hd]
        simp only [List.cons_append, List.nil_append, List.cons_lt_cons_iff]
        rw [ih]
/-- the three kinds of words, as quote writes them -/
theorem quoteL_kind {l : List Nat} (h : OkW l) : (blockF l = 0 ∧ quoteL l = l ∧ ∃ r, l = 37 :: r) ∨ (blockF l = 1 ∧ quoteL l = 39 :: (repL l ++ [39])) ∨ (blockF l = 2 ∧ quoteL l = l ∧ ∃ c r, l = c :: r ∧ 40 < c) := by
  unfold blockF quoteL
  by_cases h0 : l = []
  · subst h0
    exact .inr (.inl ⟨rfl, rfl⟩)
  · rw [if_neg h0, if_neg h0]
    by_cases hb : l.all bareC = true
    · rw [if_pos hb, if_pos hb]
      obtain ⟨c, r, rfl⟩ := List.exists_cons_of_ne_nil h0
      by_cases hc : c = 37
      · subst hc
        exact .inl ⟨rfl, rfl, r, rfl⟩
      · refine .inr (.inr ⟨by simp [hc], rfl, c, r, rfl, ?_⟩)
        have h1 : bareC c = true := by
          rw [List.all_cons, Bool.and_eq_true] at hb
          exact hb.1
        simp [bareC] at h1
        omega
    · rw [if_neg hb, if_neg hb]
      exact .inr (.inl ⟨rfl, rfl⟩)
theorem ahead_is {a b : List Nat} (ha : OkW a) (hb : OkW b) : aheadF a b = decide (quoteL a < quoteL b) := by
  unfold aheadF
  rcases quoteL_kind ha with ⟨k1, q1, r1, e1⟩ | ⟨k1, q1⟩ | ⟨k1, q1, c1, r1, e1, g1⟩ <;> rcases quoteL_kind hb with ⟨k2, q2, r2, e2⟩ | ⟨k2, q2⟩ | ⟨k2, q2, c2, r2, e2, g2⟩
  · rw [k1, k2, if_neg (by decide), if_neg (by decide), q1, q2]
  · rw [k1, k2, if_pos (by decide), q1, q2, e1]
    simp [List.cons_lt_cons_iff]
  · rw [k1, k2, if_pos (by decide), q1, q2, e1, e2]
    have h1 : 37 < c2 := by omega
    simp [List.cons_lt_cons_iff, h1]
  · rw [k1, k2, if_pos (by decide), q1, q2, e2]
    simp [List.cons_lt_cons_iff]
  · rw [k1, k2, if_neg (by decide), if_pos rfl, q1, q2, decide_eq_decide, ← rep_lt]
    simp [List.cons_lt_cons_iff]
  · rw [k1, k2, if_pos (by decide), q1, q2, e2]
    have h1 : 39 < c2 := by omega
    simp [List.cons_lt_cons_iff, h1]
  · rw [k1, k2, if_pos (by decide), q1, q2, e1, e2]
    have h1 : ¬ c1 < 37 := by omega
    have h2 : ¬ c1 = 37 := by omega
    simp [List.cons_lt_cons_iff, h1, h2]
  · rw [k1, k2, if_pos (by decide), q1, q2, e1]
    have h1 : ¬ c1 < 39 := by omega
    have h2 : ¬ c1 = 39 := by omega
    simp [List.cons_lt_cons_iff, h1, h2]
  · rw [k1, k2, if_neg (by decide), if_neg (by decide), q1, q2]
theorem lt_tri {a b : List Nat} (h1 : ¬ a < b) (h2 : ¬ b < a) : a = b := List.le_antisymm h2 h1
theorem quoteL_inj {a b : List Nat} (ha : OkW a) (hb : OkW b) (e : quoteL a = quoteL b) : a = b := by
  rcases quoteL_kind ha with ⟨k1, q1, r1, e1⟩ | ⟨k1, q1⟩ | ⟨k1, q1, c1, r1, e1, g1⟩ <;> rcases quoteL_kind hb with ⟨k2, q2, r2, e2⟩ | ⟨k2, q2⟩ | ⟨k2, q2, c2, r2, e2, g2⟩
  · rw [q1, q2] at e; exact e
  · rw [q1, q2, e1] at e; simp at e
  · rw [q1, q2] at e; exact e
  · rw [q1, q2, e2] at e; simp at e
  · rw [q1, q2] at e
    have e' : repL a ++ [39] = repL b ++ [39] := List.tail_eq_of_cons_eq e
    have h1 : ¬ a ++ [39] < b ++ [39] := fun h => by
      rw [← rep_lt, e'] at h
      exact List.lt_irrefl _ h
    have h2 : ¬ b ++ [39] < a ++ [39] := fun h => by
      rw [← rep_lt, e'] at h
      exact List.lt_irrefl _ h
    exact List.append_cancel_right (lt_tri h1 h2)
  · rw [q1, q2, e2] at e; simp at e; omega
  · rw [q1, q2] at e; exact e
  · rw [q1, q2, e1] at e; simp at e; omega
  · rw [q1, q2] at e; exact e
/-! a row in order falls into a front and a back -/
theorem parts {α : Type} (P : α → Bool) : ∀ l : List α, l.Pairwise (fun a b => P b = true → P a = true) → l = l.filter P ++ l.filter (fun a => !P a)
  | [], _ => rfl
  | a :: r, h => by
    rw [List.pairwise_cons] at h
    have ih := parts P r h.2
    cases ha : P a with
    | true =>
      simp only [List.filter_cons, ha, if_true, Bool.not_true, Bool.false_eq_true, if_false, List.cons_append]
      rw [← ih]
    | false =>
      have h1 : r.filter P = [] := List.filter_eq_nil_iff.mpr fun b hb hp => by rw [h.1 b hb hp] at ha; cases ha
      have h2 : r.filter (fun a => !P a) = r := by
        rw [h1] at ih
        exact ih.symm
      simp only [List.filter_cons, ha, Bool.false_eq_true, if_false, Bool.not_false, if_true]
      rw [h1, h2]
      rfl
theorem parts_at {α : Type} {P : α → Bool} {l : List α} (h : l.Pairwise fun a b => P b = true → P a = true) {i : Nat} (hi : i < l.length) : P l[i] = decide (i < (l.filter P).length) := by
  have e := parts P l h
  have h1 : l[i]? = some l[i] := List.getElem?_eq_getElem hi
  generalize l[i] = v at h1
  rw [e] at h1
  by_cases hlt : i < (l.filter P).length
  · rw [List.getElem?_append_left hlt, List.getElem?_eq_getElem hlt] at h1
    have := List.getElem_mem hlt
    rw [Option.some.inj h1] at this
    have h2 := (List.mem_filter.mp this).2
    rw [h2, decide_eq_true hlt]
  · rw [List.getElem?_append_right (by omega)] at h1
    have := List.mem_of_getElem? h1
    have h2 := (List.mem_filter.mp this).2
    rw [Bool.not_eq_true'] at h2
    rw [decide_eq_false hlt]
    exact h2
theorem parts_cut {α : Type} {P : α → Bool} {l : List α} (h : l.Pairwise fun a b => P b = true → P a = true) : l.take (l.filter P).length = l.filter P ∧ l.drop (l.filter P).length = l.filter (fun a => !P a) := by
  have e := parts P l h
  constructor
  · conv => lhs; arg 2; rw [e]
    exact List.take_left
  · conv => lhs; arg 2; rw [e]
    exact List.drop_left
theorem bis_at {p : Nat → Bool} : ∀ (f lo hi t : Nat), lo ≤ t → t ≤ hi → hi - lo ≤ f → (∀ i, lo ≤ i → i < hi → p i = decide (i < t)) → bis p f lo hi = t
  | 0, lo, hi, t, h1, h2, h3, _ => by
    show lo = t
    omega
  | f + 1, lo, hi, t, h1, h2, h3, hp => by
    by_cases hlt : lo < hi
    · have hm := hp ((lo + hi) / 2) (by omega) (by omega)
      by_cases ht : (lo + hi) / 2 < t
      · rw [bis_up hlt (by rw [hm, decide_eq_true ht])]
        exact bis_at f _ _ t (by omega) h2 (by omega) fun i a b => hp i (by omega) b
      · rw [bis_down hlt (by rw [hm, decide_eq_false ht])]
        exact bis_at f _ _ t h1 (by omega) (by omega) fun i a b => hp i a (by omega)
    · rw [bis_stop hlt]
      omega
theorem keyAt_wk {cs : List Cell} {i : Nat} (h : i < cs.length) : keyAt cs i = quoteL ((cs.map Cell.wk)[i]'(by rw [List.length_map]; exact h)).1 := by
  unfold keyAt
  rw [List.getElem?_eq_getElem h, List.getElem_map]
  rfl
theorem qF (x : List Nat) : (quoteF ⟨x.toArray⟩).cps.toList = quoteL x := by simp [quoteF]
theorem srtL {row : Row} {x : List Nat} (srt : Sorted row) (okw : ∀ p ∈ row, OkW p.1) (hx : OkW x) : row.Pairwise fun a b => aheadF b.1 x = true → aheadF a.1 x = true := by
  refine List.Pairwise.imp_of_mem ?_ srt
  intro a b ha hb h hab
  rw [ahead_is (okw b hb) hx, decide_eq_true_eq] at hab
  rw [ahead_is (okw a ha) hx, decide_eq_true_eq]
  exact List.lt_of_le_of_lt h hab
def leR (x : List Nat) (p : List Nat × Int) : Bool := !decide (quoteL x < quoteL p.1)
theorem srtR {row : Row} {x : List Nat} (srt : Sorted row) : row.Pairwise fun a b => leR x b = true → leR x a = true := by
  refine List.Pairwise.imp ?_ srt
  intro a b h hab
  unfold leR at hab ⊢
  rw [Bool.not_eq_true', decide_eq_false_iff_not] at hab ⊢
  exact fun z => h (List.lt_of_le_of_lt hab z)
theorem leR_is {p : List Nat × Int} {x : List Nat} (hp : OkW p.1) (hx : OkW x) : leR x p = (aheadF p.1 x || p.1 == x) := by
  rw [ahead_is hp hx]
  unfold leR
  by_cases h1 : quoteL p.1 < quoteL x
  · have h2 : ¬ quoteL x < quoteL p.1 := fun z => List.lt_asymm h1 z
    simp [h1, h2]
  · by_cases h3 : p.1 = x
    · subst h3
      simp [h1]
    · have h2 : quoteL x < quoteL p.1 := by
        refine Decidable.byContradiction fun z => h3 (quoteL_inj hp hx (lt_tri h1 z))
      simp [h1, h2, h3]
theorem cntR {x : List Nat} (hx : OkW x) : ∀ row : Row, (∀ p ∈ row, OkW p.1) → (row.filter (leR x)).length = cntA row x + cntE row x
  | [], _ => rfl
  | p :: r, h => by
    have ih := cntR hx r fun q hq => h q (.tail _ hq)
    unfold cntA cntE at ih ⊢
    have hp := h p (.head _)
    have e := leR_is hp hx
    simp only [List.filter_cons]
    rw [e]
    by_cases h1 : aheadF p.1 x = true
    · have h2 : (p.1 == x) = false := by
        rw [beq_eq_false_iff_ne]
        rintro rfl
        rw [ahead_is hp hp, decide_eq_true_eq] at h1
        exact List.lt_irrefl _ h1
      simp only [h1, h2, Bool.true_or, if_true, Bool.false_eq_true, if_false, List.length_cons]
      omega
    · have h1' : aheadF p.1 x = false := by simpa using h1
      cases h2 : (p.1 == x) with
      | true =>
        simp only [h1', Bool.false_or, if_true, Bool.false_eq_true, if_false, List.length_cons]
        omega
      | false =>
        simp only [h1', Bool.or_self, Bool.false_eq_true, if_false]
        exact ih
theorem bisL_cnt {cs : List Cell} {row : Row} {x : List Nat} (e : cs.map Cell.wk = row) (srt : Sorted row) (okw : ∀ p ∈ row, OkW p.1) (hx : OkW x) : bis (leftAt cs (quoteF ⟨x.toArray⟩)) cs.length 0 cs.length = cntA row x := by
  subst e
  have hle : cntA (cs.map Cell.wk) x ≤ cs.length := by
    unfold cntA
    have := List.length_filter_le (fun p : List Nat × Int => aheadF p.1 x) (cs.map Cell.wk)
    rw [List.length_map] at this
    exact this
  refine bis_at _ _ _ _ (Nat.zero_le _) hle (Nat.le_refl _) fun i _ hi => ?_
  have hi' : i < (cs.map Cell.wk).length := by rw [List.length_map]; exact hi
  have h := parts_at (srtL srt okw hx) hi'
  unfold cntA
  rw [← h]
  unfold leftAt
  rw [keyAt_wk hi, qF, ahead_is (okw _ (List.getElem_mem hi')) hx]
theorem bisR_cnt {cs : List Cell} {row : Row} {x : List Nat} (e : cs.map Cell.wk = row) (srt : Sorted row) (okw : ∀ p ∈ row, OkW p.1) (hx : OkW x) : bis (rightAt cs (quoteF ⟨x.toArray⟩)) cs.length 0 cs.length = cntA row x + cntE row x := by
  subst e
  rw [← cntR hx _ okw]
  have hle : ((cs.map Cell.wk).filter (leR x)).length ≤ cs.length := by
    have := List.length_filter_le (leR x) (cs.map Cell.wk)
    rw [List.length_map] at this
    exact this
  refine bis_at _ _ _ _ (Nat.zero_le _) hle (Nat.le_refl _) fun i _ hi => ?_
  have hi' : i < (cs.map Cell.wk).length := by rw [List.length_map]; exact hi
  have h := parts_at (srtR (x := x) srt) hi'
  rw [← h]
  unfold rightAt
  rw [keyAt_wk hi, qF]
  rfl
theorem putAt_sorted {row : Row} {x : List Nat} {k : Int} {t : Nat} (srt : Sorted row) (h1 : ∀ p ∈ row.take t, ¬ quoteL x < quoteL p.1) (h2 : ∀ p ∈ row.drop t, ¬ quoteL p.1 < quoteL x) : Sorted (putAt row t (x, k)) := by
  unfold Sorted putAt at *
  rw [List.pairwise_append, List.pairwise_cons]
  have hs : (row.take t ++ row.drop t).Pairwise fun a b => ¬ quoteL b.1 < quoteL a.1 := by rw [List.take_append_drop]; exact srt
  rw [List.pairwise_append] at hs
  refine ⟨hs.1, ⟨fun p hp => h2 p hp, hs.2.1⟩, fun a ha b hb => ?_⟩
  rcases List.mem_cons.mp hb with rfl | hb
  · exact h1 a ha
  · exact hs.2.2 a ha b hb
theorem stepR_sorted {row : Row} {x : List Nat} {k : Nat} (srt : Sorted row) (okw : ∀ p ∈ row, OkW p.1) (hx : OkW x) : Sorted (stepR row x k) := by
  unfold stepR
  split
  · obtain ⟨e1, e2⟩ := parts_cut (srtL srt okw hx)
    refine putAt_sorted srt (fun p hp => ?_) (fun p hp => ?_)
    · unfold cntA at hp
      rw [e1] at hp
      obtain ⟨m1, m2⟩ := List.mem_filter.mp hp
      rw [ahead_is (okw p m1) hx, decide_eq_true_eq] at m2
      exact fun z => List.lt_asymm m2 z
    · unfold cntA at hp
      rw [e2] at hp
      obtain ⟨m1, m2⟩ := List.mem_filter.mp hp
      rw [ahead_is (okw p m1) hx, Bool.not_eq_true', decide_eq_false_iff_not] at m2
      exact m2
  · rw [← cntR hx row okw]
    obtain ⟨e1, e2⟩ := parts_cut (srtR (x := x) srt)
    refine putAt_sorted srt (fun p hp => ?_) (fun p hp => ?_)
    · rw [e1] at hp
      obtain ⟨m1, m2⟩ := List.mem_filter.mp hp
      unfold leR at m2
      rw [Bool.not_eq_true', decide_eq_false_iff_not] at m2
      exact m2
    · rw [e2] at hp
      obtain ⟨m1, m2⟩ := List.mem_filter.mp hp
      unfold leR at m2
      rw [Bool.not_not, decide_eq_true_eq] at m2
      exact fun z => List.lt_asymm m2 z
/-! the lexer over the line -/
def finT : List Nat → List Nat → Bool → Option (List Nat × Bool × List Nat × Bool)
  | [], tok, qd => some (tok, qd, [], true)
  | _ :: r, tok, qd => some (tok, qd, r, false)
theorem run_end {T tok : List Nat} {qd : Bool} (hT : T = [] ∨ ∃ r, T = 32 :: r) (h : tok ≠ [] ∨ qd = true) : runT T .a tok qd = finT T tok qd := by
  rcases hT with rfl | ⟨r, rfl⟩
  · rfl
  · unfold runT
    rw [if_pos rfl, if_neg]
    · rfl
    · rintro ⟨h1, h2⟩
      rcases h with h | h
      · exact h h1
      · rw [h] at h2; cases h2
theorem bare_not {c : Nat} (h : bareC c = true) : c ≠ 32 ∧ c ≠ 39 ∧ c ≠ 34 := by
  simp [bareC] at h
  omega
theorem run_bare {T : List Nat} (hT : T = [] ∨ ∃ r, T = 32 :: r) : ∀ (l tok : List Nat) (qd : Bool), l.all bareC = true → tok ≠ [] → runT (l ++ T) .a tok qd = finT T (tok ++ l) qd
  | [], tok, qd, _, h => by
    rw [List.append_nil]
    exact run_end hT (.inl h)
  | c :: r, tok, qd, hb, h => by
    rw [List.all_cons, Bool.and_eq_true] at hb
    obtain ⟨n1, n2, n3⟩ := bare_not hb.1
    show runT (c :: (r ++ T)) .a tok qd = _
    unfold runT
    rw [if_neg n1, if_neg n2, if_neg n3, if_pos hb.1, run_bare hT r (tok ++ [c]) qd hb.2 (by simp)]
    simp
theorem run_s {T : List Nat} : ∀ (l tok : List Nat) (qd : Bool), OkW l → runT (repL l ++ 39 :: T) .s tok qd = runT T .a (tok ++ l) true
  | [], tok, qd, _ => by
    show runT (39 :: T) .s tok qd = _
    rw [List.append_nil]
    conv => lhs; unfold runT
    rw [if_pos rfl]
  | c :: r, tok, qd, h => by
    have hr : OkW r := fun d hd => h d (.tail _ hd)
    have ih := run_s (T := T) r (tok ++ [c])
    show runT (((if c = 39 then [39, 34, 39, 34, 39] else [c]) ++ repL r) ++ 39 :: T) .s tok qd = _
    by_cases hc : c = 39
    · subst hc
      rw [if_pos rfl]
      show runT (39 :: 34 :: 39 :: 34 :: 39 :: (repL r ++ 39 :: T)) .s tok qd = _
      have e1 : runT (39 :: 34 :: 39 :: 34 :: 39 :: (repL r ++ 39 :: T)) .s tok qd = runT (repL r ++ 39 :: T) .s (tok ++ [39]) true := by
        simp [runT]
      rw [e1, ih true hr]
      simp
    · rw [if_neg hc]
      show runT (c :: (repL r ++ 39 :: T)) .s tok qd = _
      have e1 : runT (c :: (repL r ++ 39 :: T)) .s tok qd = runT (repL r ++ 39 :: T) .s (tok ++ [c]) true := by
        conv => lhs; unfold runT
        rw [if_neg hc, if_pos (h c (.head _))]
      rw [e1, ih true hr]
      simp
theorem run_word {T l : List Nat} (hT : T = [] ∨ ∃ r, T = 32 :: r) (h : OkW l) : ∃ qd, runT (quoteL l ++ T) .b [] false = finT T l qd ∧ (l ≠ [] ∨ qd = true) := by
  have hq : ∀ l : List Nat, OkW l → runT (39 :: (repL l ++ [39]) ++ T) .b [] false = finT T l true := fun l h => by
    have e : 39 :: (repL l ++ [39]) ++ T = 39 :: (repL l ++ 39 :: T) := by simp
    rw [e]
    have e1 : runT (39 :: (repL l ++ 39 :: T)) .b [] false = runT (repL l ++ 39 :: T) .s [] false := by
      conv => lhs; unfold runT
      rw [if_neg (by decide), if_pos rfl]
    rw [e1, run_s l [] false h]
    exact run_end hT (.inr rfl)
  unfold quoteL
  by_cases h0 : l = []
  · subst h0
    rw [if_pos rfl]
    exact ⟨true, hq [] h, .inr rfl⟩
  · rw [if_neg h0]
    by_cases hb : l.all bareC = true
    · rw [if_pos hb]
      obtain ⟨c, r, rfl⟩ := List.exists_cons_of_ne_nil h0
      rw [List.all_cons, Bool.and_eq_true] at hb
      refine ⟨false, ?_, .inl h0⟩
      show runT (c :: (r ++ T)) .b [] false = _
      have e1 : runT (c :: (r ++ T)) .b [] false = runT (r ++ T) .a [c] false := by
        conv => lhs; unfold runT
        rw [if_pos hb.1]
      rw [e1, run_bare hT r [c] false hb.2 (by simp)]
      rfl
    · rw [if_neg hb]
      exact ⟨true, hq l h, .inr rfl⟩
theorem lx_join : ∀ ws : List (List Nat), (∀ x ∈ ws, OkW x) → ws ≠ [] → Lx false (joinL ws) ws
  | [], _, h => absurd rfl h
  | [x], h, _ => by
    obtain ⟨qd, h1, h2⟩ := run_word (T := []) (.inl rfl) (h x (.head _))
    rw [List.append_nil] at h1
    exact .more h1 h2 .done
  | x :: y :: r, h, _ => by
    obtain ⟨qd, h1, h2⟩ := run_word (T := 32 :: joinL (y :: r)) (.inr ⟨_, rfl⟩) (h x (.head _))
    exact .more h1 h2 (lx_join (y :: r) (fun z hz => h z (.tail _ hz)) (by simp))
end
section
local macro_rules | `(tactic| walk_at "my steps") => `(tactic| repeat' ((fail_if_success (with_reducible show wpAny _ _ (exec (Stmt.For _ _ _ _ _) _) _ _ _)); (fail_if_success (with_reducible show wpAny _ _ (pyIter _) _ _ _)); (first | (k_unfold; (try dsimp only)) | (k_end; wrow_close) | walk1 | (dsimp only; walk1) | (leave1; walk_say "STEP leave1"; try dsimp only) | fail "no step")))
local macro_rules | `(tactic| k_all) => `(tactic| assumption)
def signs : List Nat := [37, 43, 45, 47, 48, 58, 64, 90, 95, 97, 10, 32, 33, 39, 40, 59, 126, 233]
def stepW (p : List (List Nat) × List Nat) (n : Int) : List (List Nat) × List Nat :=
  if n.fmod 20 < 2 then (p.1 ++ [p.2], []) else (p.1, p.2 ++ [signs.getD (n.fmod 20 - 2).toNat 0])
def wordsP (ns : List Int) : List (List Nat) × List Nat := (ns.take 16).foldl stepW ([[37], [97]], [])
def wordsF (ns : List Int) : List (List Nat) := (wordsP ns).1 ++ [(wordsP ns).2]
/-- the loop's state -/
def WInv (g : Heap) (L1 D D' lw I : Addr) (ws' : List Value) (ns : List Int) (news : List (Addr × Obj)) (s₀ : Shared) (i : Nat) (s : Shared) : Prop :=
  ∃ h tk oI vs0 x tx c xv ws0, s = { s₀ with heap := h, toks := tk } ∧ oI.cls = .type "list_iterator" ∧ oI.data = .fields #[.ref D', .int i 0] ∧
    Fr g L1 h (fun y => if y = Str.ofString "x" then xv else if y = Str.ofString "words" then some (.ref lw) else [(S "script", Value.ref D)].reverse.lookup y) ∧
    News g L1 h ((I, oI) :: (D', W.listOf ws'.toArray 0) :: (lw, W.listOf (vs0 ++ [Value.str ⟨x.toArray⟩ tx]).toArray c) :: news) ∧
    Txts vs0 ws0 ∧ ((ns.take 16).take i).foldl stepW ([[37], [97]], []) = (ws0, x) ∧ x.length ≤ i ∧ ws0.length ≤ 2 + i
section
variable {w : World} {A : Around} {E : Value → Shared → Prop} {s : Shared} {g : Heap} {L1 I D' lw : Addr} {m : Str → Option Value} {oI oD : Obj} {vs0 : List Value} {v x : Value} {c : Nat} {news : List (Addr × Obj)}
theorem app_w {Q : Value → Shared → Prop} (F : Fr g L1 s.heap m) (N : News g L1 s.heap ((I, oI) :: (D', oD) :: (lw, W.listOf (vs0 ++ [v]).toArray c) :: news)) (h1 : I ≠ lw) (h2 : D' ≠ lw) (h3 : ∀ q ∈ news, q.1 ≠ lw) (hs : vs0.length ≤ 1000)
    (h : ∀ h', Fr g L1 h' m → News g L1 h' ((I, oI) :: (D', oD) :: (lw, W.listOf ((vs0 ++ [v]) ++ [x]).toArray (c + 1)) :: news) → Q .none { s with heap := h' }) : wpAny (model PySem.Challenge.rw_mr0367_01.prog w) A (call (.builtin "list.append") [.ref lw, x]) Q E s := by
  refine append_K (its := (vs0 ++ [v]).toArray) (n := c) F N (.tail h1 (.tail h2 (.head h3))) ?_ (by rw [sizeLine_eq, List.size_toArray, List.length_append]; simp; omega)
  intro h' F' N'
  refine h h' F' ?_
  have e : (vs0 ++ [v]).toArray.push x = ((vs0 ++ [v]) ++ [x]).toArray := by simp
  rw [e] at N'
  exact N'
theorem last_w {value slice : Expr} {u : Tok} {Q : Value → Shared → Prop} (N : News g L1 s.heap ((I, oI) :: (D', oD) :: (lw, W.listOf (vs0 ++ [v]).toArray c) :: news)) (h : Q v s)
    (hs : subscripted slice false (.ref lw) (.int (-1) u) = operate [.ref lw, .int (-1) u] (getItem (.ref lw) (.int (-1) u)) := by with_unfolding_all rfl) :
    wpAny (model PySem.Challenge.rw_mr0367_01.prog w) A (subscriptTail value slice (.ref lw) (.int (-1) u)) Q E s := by
  refine kde_neg (vs := vs0 ++ [v]) (j := vs0.length) ⟨_, (N _ (.tail _ (.tail _ (.head _)))).1, rfl, c, rfl⟩ (by decide) (by decide) ?_ (by simp) h hs
  unfold seqIndex?
  simp
  omega
theorem set_w {t : Tok} {Q : Unit → Shared → Prop} (F : Fr g L1 s.heap m) (N : News g L1 s.heap ((I, oI) :: (D', oD) :: (lw, W.listOf (vs0 ++ [v]).toArray c) :: news)) (h1 : I ≠ lw) (h2 : D' ≠ lw) (h3 : ∀ q ∈ news, q.1 ≠ lw)
    (h : ∀ h', Fr g L1 h' m → News g L1 h' ((I, oI) :: (D', oD) :: (lw, W.listOf (vs0 ++ [x]).toArray c) :: news) → Q () { s with heap := h' }) : wpAny (model PySem.Challenge.rw_mr0367_01.prog w) A (setItem (.ref lw) (.int (-1) t) x) Q E s := by
  refine ki_setNeg (its := (vs0 ++ [v]).toArray) (n := c) (j := vs0.length) (q := vs0 ++ [x]) F N (by decide) (by decide) ?_ ?_ (.tail h1 (.tail h2 (.head h3))) h
  · unfold seqIndex?
    simp
    omega
  · have hk : ∀ l : List Value, ki_setL (l ++ [v]) l.length x = some (l ++ [x]) := by
      intro l
      induction l with
      | nil => rfl
      | cons y r ih =>
        show (match ki_setL (r ++ [v]) r.length x with | some q => some (y :: q) | none => none) = _
        rw [ih]
        rfl
    simpa using hk vs0
/-- behind a step of the loop's own iterator -/
theorem after_it {h h7 : Heap} (F : Fr g L1 h m) (N : News g L1 h ((I, oI) :: news)) (hk : ∀ b o, b ∉ [I] → h.get? b = some o → h7.get? b = some o) (hne : ∀ q ∈ news, q.1 ≠ I) : Fr g L1 h7 m ∧ News g L1 h7 news :=
  ⟨⟨F.ns.at' fun o e => hk _ o (fun z => (N _ (.head _)).2.1 (List.mem_singleton.mp z).symm) e, fun b o e => hk b o (fun z => by
    have := (N _ (.head _)).2.2
    rw [List.mem_singleton.mp z, this] at e
    cases e) (F.keep b o e), F.above⟩, fun q hq => ⟨hk _ _ (fun z => hne q hq (List.mem_singleton.mp z)) (N q (.tail _ hq)).1, (N q (.tail _ hq)).2⟩⟩
end
theorem item_sign {k : Int} (h0 : 0 ≤ k) (h1 : k < 18) : Txt.item (Str.ofString "%+-/0:@Z_a\n !'(;~é") k = ⟨#[signs.getD k.toNat 0]⟩ := by
  obtain ⟨n, rfl⟩ : ∃ n : Nat, k = n := ⟨k.toNat, by omega⟩
  have hn : n < 18 := by omega
  have : ∀ n : Fin 18, Txt.item (Str.ofString "%+-/0:@Z_a\n !'(;~é") ((n.val : Nat) : Int) = ⟨#[signs.getD n.val 0]⟩ := by decide +kernel
  simpa using this ⟨n, hn⟩
theorem foldl_take {α β : Type} (f : β → α → β) (b : β) (d : α) (l : List α) {i : Nat} (h : i < l.length) : (l.take (i + 1)).foldl f b = f ((l.take i).foldl f b) (l.getD i d) := by
  rw [List.take_add_one, List.getElem?_eq_getElem h, List.foldl_append, List.getD_eq_getElem?_getD, List.getElem?_eq_getElem h]
  rfl
local macro_rules | `(tactic| walk_at "call builtin:list.append") => `(tactic| (k_here; (with_reducible show wpAny _ _ (call (Value.builtin _) [Value.ref _, _]) _ _ _); k_dflt (refine' app_w ?F ?N ?a ?b ?d ?e ?_; (case F => k_asm); (case N => k_asm); (case a => assumption); (case b => assumption); (case d => assumption); (case e => assumption); k_whole; intro h9 F9 N9; (try dsimp only); (try k_fold))))
local macro_rules | `(tactic| walk_at "subscriptTail Name UnaryOp ref int") => `(tactic| (k_here; k_dflt (refine' last_w ?N ?_; (case N => k_asm); k_whole)))
local macro_rules | `(tactic| walk_at "setItem ref int") => `(tactic| (k_here; k_dflt (refine' set_w ?F ?N ?a ?b ?d ?_; (case F => k_asm); (case N => k_asm); (case a => assumption); (case b => assumption); (case d => assumption); k_whole; intro h9 F9 N9; (try dsimp only); (try k_fold))))
theorem words_ok (w : World) (D : Addr) (vs : List Value) (ns : List Int) (hi : IntsAre vs ns) (hlen : ns.length ≤ 63) (news : List (Addr × Obj))
   (p' : Program) (loose : List Str) (mean : ExcName → Option Value) (mg mb : Str → Option Value) (dp un : Nat) (gd : Option (List Code)) (cn : Str) (sc : Scope) (a : Addr) (ccd : Value) (cl : List (Str × Addr)) (outer : List Env) (A₀ : Around) (base h₀ : Heap) (L : Addr) (m : Str → Option Value) (s : Shared) (Q E : Value → Shared → Prop)
    (B : Below A₀ base outer h₀) (F : Fr h₀ L s.heap m) (X : (K w.params).In h₀) (N : News h₀ L s.heap news) (hD : h₀.IsList D vs.toArray) (T : Top p' loose mean mg mb h₀) (hk : sc.kind = .function) (hd : dp + 20 < recursionLimit) (hu : un + 300 < cLine)
    (hret : ∀ lw acc c h' tk', Fr h₀ L h' m → News h₀ L h' ((lw, lstO acc c) :: news) → Txts acc.toList (wordsF ns) → (∀ q ∈ news, q.1 < lw) → Q (.ref lw) { s with heap := h', toks := tk' }) :
    wpAny (model PySem.Challenge.rw_mr0367_01.prog w) (ktrTop dp un gd cn sc L a ccd cl outer) (call (.ref 802) [.ref D]) Q E s := by
  revert X
  k_fill
  intro X
  refine wpAny_call ?_
  k_dflt (refine' enter (binds := [(S "script", .ref D)]) ?hp ?hb ?hsc ?k1 ?k2 ?k3 ?k4 ?k5 ?kA ?kF ?kK ?k6 ?k7 ?k8 ?k9 ?kB ?_ ?c2 ?c3 ?c4 ?c5; walk_at "my cases"; intro g L1 h1 FG F1 N1 B1 X1 T1; (try dsimp only); (try k_lift B1); (try k_fold))
  have hD1 : g.IsList D vs.toArray := let ⟨o, e, r⟩ := hD; ⟨o, FG.keep _ _ e, r⟩
  walk_at "my steps"
  refine for_by ?_ (by intro _; rfl)
  walk_at "my steps"
  rename News g L1 _ _ => N4
  rename Fr g L1 _ _ => F4
  rename IntsAre _ _ => hI4
  rename (_ < _ ∧ AllLt _ _) => hlt4
  rename (∀ p ∈ news, p.1 < _) => hlt5
  refine wpAny_pyIter_list ⟨_, (N4 _ (.head _)).1, rfl, 0, rfl⟩ ?_
  rename_i lw hA hB D' ws' h4 hC hL
  have N5 := N4.push F4 { cls := .type "list_iterator", data := .fields #[.ref D', .int 0 0] }
  have F5 := F4.push { cls := .type "list_iterator", data := .fields #[.ref D', .int 0 0] }
  have hsz : ∀ q ∈ (D', W.listOf ws'.toArray 0) :: (lw, _) :: news, q.1 < h4.objs.size := fun q hq => Heap.lt_size (N4 q hq).1
  have hne1 : D' ≠ h4.objs.size := ne_lt (hsz _ (.head _))
  have hne2 : lw ≠ h4.objs.size := ne_lt (hsz _ (.tail _ (.head _)))
  have hne3 : ∀ q ∈ news, q.1 ≠ h4.objs.size := fun q hq => ne_lt (hsz q (.tail _ (.tail _ hq)))
  have hne4 : lw ≠ D' := ne_lt hlt4.1
  have hne5 : ∀ q ∈ news, q.1 ≠ lw := fun q hq => ne_lt (hlt5 q hq)
  have hne6 : h4.objs.size ≠ lw := hne2.symm
  have hne7 : D' ≠ lw := hne4.symm
  have hws : ws'.length = (ns.take 16).length := hI4.length
  refine ⟨h4.objs.size, [h4.objs.size, D'], [h4.objs.size], ws'.toArray.size, _, _, WInv g L1 D D' lw h4.objs.size ws' ns news s, rfl, Walks.list rfl _ _ hne1 ws'.toArray, ?init, ?st, ?turn, ?fin⟩
  case init =>
    refine ⟨_, _, _, [_, _], [], _, 0, none, [[37], [97]], rfl, rfl, rfl, Fr.cast F5 ?_, N5, .cons (.cons .nil), rfl, Nat.le_refl _, Nat.le_refl _⟩
    intro y
    by_cases hy : y = Str.ofString "x"
    · subst hy; rfl
    · rw [if_neg hy]
  case st =>
    rintro i s2 ⟨h, tk, oI, vs0, x, tx, c, xv, ws0, rfl, o1, o2, F6, N6, hTx, hfold, hxl, hwl⟩
    exact ⟨⟨oI, (N6 _ (.head _)).1, o1, o2⟩, ⟨_, (N6 _ (.tail _ (.head _))).1, rfl, 0, rfl⟩⟩
  case turn =>
    rintro i s2 hi ⟨h, tk, oI, vs0, x, tx, c, xv, ws0, rfl, o1, o2, F6, N6, hTx, hfold, hxl, hwl⟩ v h7 tk7 hv hst hkeep
    have hv' : ws'[i]? = some v := by simpa using hv
    have hi' : i < (ns.take 16).length := by rw [← hws]; simpa using hi
    have hi16 : i < 16 := by rw [hC] at hi'; omega
    obtain ⟨tv, rfl⟩ := hI4.int_at i v hv'
    obtain ⟨⟨oJ, hJ1, hJ2, hJ3⟩, _⟩ := hst
    obtain ⟨F7, N7'⟩ := after_it F6 N6 hkeep (ne1 hne1 (ne1 hne2 hne3))
    have N7 : News g L1 h7 ((h4.objs.size, oJ) :: (D', W.listOf ws'.toArray 0) :: (lw, W.listOf (vs0 ++ [Value.str ⟨x.toArray⟩ tx]).toArray c) :: news) := fun q hq => by
      rcases List.mem_cons.mp hq with rfl | hq
      · exact ⟨hJ1, (N6 _ (.head _)).2⟩
      · exact N7' q hq
    have hv0 : vs0.length ≤ 1000 := by rw [hTx.len]; omega
    have hst := foldl_take stepW ([[37], [97]], []) 0 (ns.take 16) hi'
    rw [hfold] at hst
    clear N6 F6 hkeep N7'
    dsimp only
    walk_at "my steps"
    · rename (_ < 2) => hlt
      rename Fr g L1 _ _ => F9
      rename News g L1 _ _ => N9
      refine ⟨_, _, oJ, vs0 ++ [Value.str ⟨x.toArray⟩ tx], [], _, _, some (.int ((ns.take 16).getD i 0) tv), ws0 ++ [x], rfl, hJ2, hJ3, Fr.cast F9 ?_, N9, hTx.snoc _ _, ?_, Nat.zero_le _, ?_⟩
      · intro y
        by_cases hy : y = Str.ofString "x"
        · rw [if_pos hy, if_pos hy]
        · rw [if_neg hy, if_neg hy, if_neg hy]
      · rw [hst]
        unfold stepW
        rw [if_pos hlt]
      · rw [List.length_append]; simp; omega
    · rename (¬ _ < 2) => hlt
      rename Fr g L1 _ _ => F9
      rename News g L1 _ _ => N9
      have hf : ((ns.take 16).getD i 0).fmod 20 < 20 := Int.fmod_lt_of_pos _ (by decide)
      have e1 : (⟨x.toArray⟩ : Str) ++ Txt.item (Str.ofString "%+-/0:@Z_a\n !'(;~é") (((ns.take 16).getD i 0).fmod 20 - 2) = ⟨(x ++ [signs.getD (((ns.take 16).getD i 0).fmod 20 - 2).toNat 0]).toArray⟩ := by
        rw [item_sign (by omega) (by omega)]
        apply Str.ext'
        show x.toArray ++ #[_] = _
        simp
      rw [e1] at N9
      refine ⟨_, _, oJ, vs0, x ++ [signs.getD (((ns.take 16).getD i 0).fmod 20 - 2).toNat 0], _, _, some (.int ((ns.take 16).getD i 0) tv), ws0, rfl, hJ2, hJ3, Fr.cast F9 ?_, N9, hTx, ?_, ?_, ?_⟩
      · intro y
        by_cases hy : y = Str.ofString "x"
        · rw [if_pos hy, if_pos hy]
        · rw [if_neg hy, if_neg hy, if_neg hy]
      · rw [hst]
        unfold stepW
        rw [if_neg hlt]
      · rw [List.length_append]; simp; omega
      · omega
  case fin =>
    rintro s2 ⟨h, tk, oI, vs0, x, tx, c, xv, ws0, rfl, o1, o2, F6, N6, hTx, hfold, hxl, hwl⟩ h7 tk7 hkeep
    obtain ⟨F7, N7⟩ := after_it F6 N6 hkeep (ne1 hne1 (ne1 hne2 hne3))
    clear N6 F6 hkeep
    dsimp only
    have e : (ns.take 16).take ws'.toArray.size = ns.take 16 := by
      rw [List.size_toArray, hws, List.take_length]
    rw [e] at hfold
    k_steps
    refine hret lw _ c _ _ (by k_asm) (fun q hq => ‹News h₀ L _ _› q (.tail _ hq)) ?_ hlt5
    show Txts (vs0 ++ [_]) _
    unfold wordsF wordsP
    rw [hfold]
    exact hTx.snoc _ _
end
section
/-! the words -/
theorem sign_ok (k : Int) : okC (signs.getD k.toNat 0) = true ∨ 18 ≤ k.toNat := by
  by_cases h : k.toNat < 18
  · left
    have : ∀ n : Fin 18, okC (signs.getD n.val 0) = true := by decide +kernel
    exact this ⟨_, h⟩
  · right; omega
theorem fold_ok : ∀ (ns : List Int) (p : List (List Nat) × List Nat) (m : Nat), (∀ x ∈ p.1, OkW x ∧ x.length ≤ m) → OkW p.2 → p.2.length ≤ m →
    (∀ x ∈ (ns.foldl stepW p).1, OkW x ∧ x.length ≤ m + ns.length) ∧ OkW (ns.foldl stepW p).2 ∧ (ns.foldl stepW p).2.length ≤ m + ns.length ∧ (ns.foldl stepW p).1.length ≤ p.1.length + ns.length ∧ p.1.length ≤ (ns.foldl stepW p).1.length
  | [], p, m, h1, h2, h3 => ⟨h1, h2, h3, Nat.le_refl _, Nat.le_refl _⟩
  | n :: r, p, m, h1, h2, h3 => by
    have hs : (∀ x ∈ (stepW p n).1, OkW x ∧ x.length ≤ m + 1) ∧ OkW (stepW p n).2 ∧ (stepW p n).2.length ≤ m + 1 ∧ (stepW p n).1.length ≤ p.1.length + 1 ∧ p.1.length ≤ (stepW p n).1.length := by
      unfold stepW
      split
      · refine ⟨fun x hx => ?_, (fun _ h => nomatch h), Nat.zero_le _, ?_, ?_⟩
        · rcases List.mem_append.mp hx with hx | hx
          · exact ⟨(h1 x hx).1, Nat.le_succ_of_le (h1 x hx).2⟩
          · rw [List.mem_singleton.mp hx]; exact ⟨h2, Nat.le_succ_of_le h3⟩
        · rw [List.length_append]; simp
        · rw [List.length_append]; omega
      · rename_i hlt
        have hf : n.fmod 20 < 20 := Int.fmod_lt_of_pos _ (by decide)
        refine ⟨fun x hx => ⟨(h1 x hx).1, Nat.le_succ_of_le (h1 x hx).2⟩, ?_, ?_, Nat.le_succ _, Nat.le_refl _⟩
        · intro c hc
          rcases List.mem_append.mp hc with hc | hc
          · exact h2 c hc
          · rw [List.mem_singleton.mp hc]
            rcases sign_ok (n.fmod 20 - 2) with h | h
            · exact h
            · omega
        · rw [List.length_append]; simp; omega
    obtain ⟨a1, a2, a3, a4, a5⟩ := hs
    obtain ⟨b1, b2, b3, b4, b5⟩ := fold_ok r (stepW p n) (m + 1) a1 a2 a3
    rw [List.foldl_cons, List.length_cons]
    refine ⟨fun x hx => ⟨(b1 x hx).1, ?_⟩, b2, ?_, ?_, ?_⟩
    · have := (b1 x hx).2; omega
    · omega
    · omega
    · omega
theorem words_good (ns : List Int) : (∀ x ∈ wordsF ns, OkW x ∧ x.length ≤ 17) ∧ (wordsF ns).length ≤ 19 ∧ 1 ≤ (wordsF ns).length := by
  have h0 : ∀ x ∈ ([[37], [97]] : List (List Nat)), OkW x ∧ x.length ≤ 1 := by
    intro x hx
    simp only [List.mem_cons, List.not_mem_nil, or_false] at hx
    rcases hx with rfl | rfl
    · exact ⟨by unfold OkW; decide, by decide⟩
    · exact ⟨by unfold OkW; decide, by decide⟩
  obtain ⟨a1, a2, a3, a4, a5⟩ := fold_ok (ns.take 16) ([[37], [97]], []) 1 h0 (fun _ h => nomatch h) (Nat.zero_le _)
  have hl : (ns.take 16).length ≤ 16 := by rw [List.length_take]; omega
  unfold wordsF wordsP
  refine ⟨fun x hx => ?_, ?_, ?_⟩
  · rcases List.mem_append.mp hx with hx | hx
    · exact ⟨(a1 x hx).1, by have := (a1 x hx).2; omega⟩
    · rw [List.mem_singleton.mp hx]; exact ⟨a2, by omega⟩
  · rw [List.length_append]
    have h2 : (([[37], [97]], []) : List (List Nat) × List Nat).1.length = 2 := rfl
    rw [h2] at a4
    simp
    omega
  · rw [List.length_append]; simp
theorem mem_of_putAt {r : Row} {j : Nat} {p q : List Nat × Int} (h : q ∈ putAt r j p) : q = p ∨ q ∈ r := by
  unfold putAt at h
  rcases List.mem_append.mp h with h | h
  · exact .inr (List.mem_of_mem_take h)
  · rcases List.mem_cons.mp h with h | h
    · exact .inl h
    · exact .inr (List.mem_of_mem_drop h)
theorem rowOf_mem {ws : List (List Nat)} : ∀ {i : Nat}, i ≤ ws.length → ∀ p ∈ rowOf ws i, p.1 ∈ ws
  | 0, _, _, h => nomatch h
  | i + 1, hi, p, h => by
    have hg : ws.getD i [] ∈ ws := by
      rw [List.getD_eq_getElem?_getD, List.getElem?_eq_getElem (by omega)]
      exact List.getElem_mem _
    have h' : p = (ws.getD i [], (i : Int)) ∨ p ∈ rowOf ws i := by
      have h : p ∈ stepR (rowOf ws i) (ws.getD i []) i := h
      unfold stepR at h
      split at h
      · exact mem_of_putAt h
      · exact mem_of_putAt h
    rcases h' with rfl | h'
    · exact hg
    · exact rowOf_mem (by omega) p h'
theorem joinL_length : ∀ ws : List (List Nat), (∀ x ∈ ws, x.length ≤ 17) → (joinL ws).length ≤ 100 * ws.length
  | [], _ => Nat.zero_le _
  | [x], h => by
    have := quoteL_length x
    have := h x (.head _)
    show (quoteL x).length ≤ 100
    omega
  | x :: y :: r, h => by
    have ih := joinL_length (y :: r) fun z hz => h z (.tail _ hz)
    have := quoteL_length x
    have := h x (.head _)
    show (quoteL x ++ 32 :: joinL (y :: r)).length ≤ _
    rw [List.length_append, List.length_cons, List.length_cons]
    omega
theorem putAt_len (r : Row) (j : Nat) (p : List Nat × Int) : (putAt r j p).length = r.length + 1 := by
  unfold putAt
  simp
  omega
theorem rowOf_len (ws : List (List Nat)) : ∀ i, (rowOf ws i).length = i
  | 0 => rfl
  | i + 1 => by
    show (stepR _ _ _).length = _
    unfold stepR
    split <;> rw [putAt_len, rowOf_len ws i]
/-- what the law asks of the row's words -/
theorem told_good (ns : List Int) : (∀ x ∈ (rowOf (wordsF ns) (wordsF ns).length).map (·.1), OkW x ∧ x.length ≤ 17) ∧ ((rowOf (wordsF ns) (wordsF ns).length).map (·.1)).length ≤ 19 ∧ 1 ≤ ((rowOf (wordsF ns) (wordsF ns).length).map (·.1)).length := by
  obtain ⟨h1, h2, h3⟩ := words_good ns
  rw [List.length_map, rowOf_len]
  refine ⟨fun x hx => ?_, h2, h3⟩
  obtain ⟨p, hp, rfl⟩ := List.mem_map.mp hx
  exact h1 _ (rowOf_mem (Nat.le_refl _) p hp)
end
section
open PySem PySem.W PySem.Calls PyProof.Rows PyProof.Rows.LCg PyProof.Rows.LCt
section
variable {w : World} {A : Around} {E : Value → Shared → Prop} {s : Shared} {Q : Value → Shared → Prop} {h₀ : Heap} {L : Addr} {m : Str → Option Value} {news : List (Addr × Obj)}
theorem len_any {l : Addr} {its : Array Value} {n : Nat} (N : News h₀ L s.heap news) (hm : (l, ({ cls := .type "list", data := .seq its n } : Obj)) ∈ news) (hs : its.size ≤ 1000) (h : Q (.int (its.size : Nat) (s.toks + 1)) { s with toks := s.toks + 1 + 1 }) :
    wpAny (model PySem.Challenge.rw_mr0367_01.prog w) A (call (.builtin "len") [.ref l]) Q E s :=
  call_len_list ⟨_, (N _ hm).1, rfl, _, rfl⟩ (by omega) h
theorem item_words {value slice : Expr} {lw : Addr} {acc : Array Value} {c : Nat} {ws : List (List Nat)} {k : Int} {u : Tok} (N : News h₀ L s.heap news) (hm : (lw, W.listOf acc c) ∈ news) (hT : Txts acc.toList ws) (h0 : 0 ≤ k) (h1 : k < ws.length) (hn : ws.length ≤ 1000)
    (h : ∀ t, Q (.str ⟨(ws.getD k.toNat []).toArray⟩ t) s)
    (hs : subscripted slice false (.ref lw) (.int k u) = operate [.ref lw, .int k u] (getItem (.ref lw) (.int k u)) := by with_unfolding_all rfl) :
    wpAny (model PySem.Challenge.rw_mr0367_01.prog w) A (subscriptTail value slice (.ref lw) (.int k u)) Q E s := by
  have hl : s.heap.IsList lw acc := ⟨_, (N _ hm).1, rfl, _, rfl⟩
  have hk : k.toNat < acc.size := by have := hT.len; simp at this; omega
  obtain ⟨t, e, _⟩ := hT.at (i := k.toNat) (v := acc[k.toNat]) (by simp [hk])
  refine tail_any hl.typeIs slot_list_getitem.lookup (wpAny_getItem_list hl h0 (by omega) (x := .str ⟨(ws.getD k.toNat []).toArray⟩ t) ?_ (h t)) hs
  rw [Array.getElem?_eq_getElem hk, e]
theorem pick_lo {l : List Value} {a : Nat} (h : a ≤ l.length) : slicePick l.toArray none (some (a : Int)) none = (l.take a).toArray := by
  rw [kms_pick_eq]
  unfold kms_pick
  have h1 : ¬ (a : Int) < 0 := by omega
  have h2 : kms_hi (some (a : Int)) l.length = a := by unfold kms_hi; simp only [h1, if_false]; omega
  rw [List.toList_toArray, h2]
  rfl
theorem pick_hi {l : List Value} {a : Nat} (h : a ≤ l.length) : slicePick l.toArray (some (a : Int)) none none = (l.drop a).toArray := by
  rw [kms_pick_eq]
  unfold kms_pick
  have h1 : ¬ (a : Int) < 0 := by omega
  have h2 : kms_lo (some (a : Int)) l.length = a := by unfold kms_lo; simp only [h1, if_false]; omega
  rw [List.toList_toArray, h2]
  show (List.take (l.length - a) (l.drop a)).toArray = _
  rw [List.take_of_length_le (by simp)]
end
section
variable {w : World} {A : Around} {E : Value → Shared → Prop} {s : Shared} {Q : Value → Shared → Prop} {h₀ : Heap} {L : Addr} {m : Str → Option Value} {news : List (Addr × Obj)}
theorem cut_lo {value slice : Expr} {ad : Addr} {ds : List Cell} {nd : Nat} {k : Int} {t : Tok} (F : Fr h₀ L s.heap m) (N : News h₀ L s.heap news) (hm : (ad, rowObj ds nd) ∈ news) (h0 : 0 ≤ k) (h1 : k ≤ ds.length) (hz : ds.length ≤ 1000)
    (h : ∀ D h', Fr h₀ L h' m → News h₀ L h' ((D, W.listOf ((ds.take k.toNat).map Cell.val).toArray 0) :: news) → (∀ p ∈ news, p.1 < D) → Q (.ref D) { s with heap := h' })
    (hs : subscripted slice false (.ref ad) (.ref s.heap.objs.size) = operate [.ref s.heap.objs.size, .ref ad] (getItem (.ref ad) (.ref s.heap.objs.size))) (ht : ∀ r, letTemporaryGo value (.ref ad) r = pure ()) :
    wpAny (model PySem.Challenge.rw_mr0367_01.prog w) A (subscriptTail value slice (.ref ad) (.ref s.heap.objs.size)) Q E { s with heap := s.heap.push { cls := .type "slice", data := .fields #[.none, .int k t, .none] } } := by
  obtain ⟨a, rfl⟩ : ∃ a : Nat, k = a := ⟨k.toNat, by omega⟩
  refine kmk_slice_lit F N ⟨_, (N _ hm).1, rfl, _, rfl⟩ .none (.int _ _) ?_ h hs ht (by rw [sizeLine_eq, List.size_toArray, List.length_map]; omega)
  rw [pick_lo (by rw [List.length_map]; omega), List.toList_toArray, Int.toNat_natCast, List.map_take]
theorem cut_hi {value slice : Expr} {ad : Addr} {ds : List Cell} {nd : Nat} {k : Int} {t : Tok} (F : Fr h₀ L s.heap m) (N : News h₀ L s.heap news) (hm : (ad, rowObj ds nd) ∈ news) (h0 : 0 ≤ k) (h1 : k ≤ ds.length) (hz : ds.length ≤ 1000)
    (h : ∀ D h', Fr h₀ L h' m → News h₀ L h' ((D, W.listOf ((ds.drop k.toNat).map Cell.val).toArray 0) :: news) → (∀ p ∈ news, p.1 < D) → Q (.ref D) { s with heap := h' })
    (hs : subscripted slice false (.ref ad) (.ref s.heap.objs.size) = operate [.ref s.heap.objs.size, .ref ad] (getItem (.ref ad) (.ref s.heap.objs.size))) (ht : ∀ r, letTemporaryGo value (.ref ad) r = pure ()) :
    wpAny (model PySem.Challenge.rw_mr0367_01.prog w) A (subscriptTail value slice (.ref ad) (.ref s.heap.objs.size)) Q E { s with heap := s.heap.push { cls := .type "slice", data := .fields #[.int k t, .none, .none] } } := by
  obtain ⟨a, rfl⟩ : ∃ a : Nat, k = a := ⟨k.toNat, by omega⟩
  refine kmk_slice_lit F N ⟨_, (N _ hm).1, rfl, _, rfl⟩ (.int _ _) .none ?_ h hs ht (by rw [sizeLine_eq, List.size_toArray, List.length_map]; omega)
  rw [pick_hi (by rw [List.length_map]; omega), List.toList_toArray, Int.toNat_natCast, List.map_drop]
theorem add_any {a b : Addr} {l1 l2 : List Value} {n1 n2 : Nat} (F : Fr h₀ L s.heap m) (N : News h₀ L s.heap news) (ha : (a, W.listOf l1.toArray n1) ∈ news) (hb : (b, W.listOf l2.toArray n2) ∈ news) (hz : l1.length + l2.length ≤ 1000)
    (h : ∀ D h', Fr h₀ L h' m → News h₀ L h' ((D, W.listOf (l1 ++ l2).toArray 0) :: news) → (∀ p ∈ news, p.1 < D) → Q (.ref D) { s with heap := h' }) :
    wpAny (model PySem.Challenge.rw_mr0367_01.prog w) A (binaryOp .Add (.ref a) (.ref b)) Q E s := by
  refine kmk_add_lit (zs := l1 ++ l2) F N ⟨_, (N _ ha).1, rfl, _, rfl⟩ ⟨_, (N _ hb).1, rfl, _, rfl⟩ rfl h ?_
  rw [sizeLine_eq, List.toList_toArray, List.toList_toArray]
  omega
def cellD (p : List Nat × Int) : PyData := .list [.str ⟨p.1.toArray⟩, .int p.2]
theorem reads_cells {h : Heap} : ∀ (cs : List Cell), (∀ c ∈ cs, h.get? c.adr = some c.obj) → ∃ fp, ReadsAll h (cs.map Cell.val) ((cs.map Cell.wk).map cellD) fp
  | [], _ => ⟨[], .nil⟩
  | c :: r, hc => by
    obtain ⟨fp, ih⟩ := reads_cells r fun x hx => hc x (.tail _ hx)
    have h1 : Reads h (.ref c.adr) (cellD c.wk) [c.adr] := by
      have e : (⟨c.w.cps.toList.toArray⟩ : Str) = c.w := Str.ext' (by simp)
      show Reads h (.ref c.adr) (.list [.str ⟨c.w.cps.toList.toArray⟩, .int c.k]) [c.adr]
      rw [e]
      exact .list (hc c (.head _)) rfl rfl (.cons (.str _ _) (.cons (.int _ _) .nil))
    exact ⟨_, .cons h1 ih⟩
theorem cellD_lay (row : Row) (h : ∀ p ∈ row, PyData.canLay0 (.str ⟨p.1.toArray⟩) = true) : PyData.canLayAll0 (row.map cellD) = true ∧ PyData.depthAll (row.map cellD) ≤ 1 := by
  induction row with
  | nil => exact ⟨by simp [PyData.canLayAll0], Nat.zero_le _⟩
  | cons p r ih =>
    obtain ⟨i1, i2⟩ := ih fun q hq => h q (.tail _ hq)
    have h1 := h p (.head _)
    constructor
    · simp [cellD, PyData.canLayAll0, PyData.canLay0, i1, h1]
      simpa [PyData.canLay0] using h1
    · simp [cellD, PyData.depthAll, PyData.depth]
      omega
theorem same_cells : ∀ row : Row, PySem.Spec.sameAll (row.map cellD) (row.map cellD) = true ∧ SeqAt.noMixAll (row.map cellD) (row.map cellD) = true
  | [] => ⟨by simp [PySem.Spec.sameAll], by simp [SeqAt.noMixAll]⟩
  | p :: r => by
    obtain ⟨h1, h2⟩ := same_cells r
    constructor
    · simp [cellD, PySem.Spec.sameAll, PySem.Spec.same, h1]
      try exact h1
    · simp [cellD, SeqAt.noMixAll, SeqAt.noMix, h2]
      try exact h2
theorem okW_lay {l : List Nat} (h : OkW l) : PyData.canLay0 (.str ⟨l.toArray⟩) = true := by
  rw [PyData.canLay0]
  unfold PyData.strOk
  show l.toArray.all _ = true
  rw [List.all_toArray, List.all_eq_true]
  intro c hc
  have := okC_cases (h c hc)
  simp only [decide_eq_true_eq]
  omega
theorem ne_rows {ar ad : Addr} {cs ds : List Cell} {n nd : Nat} (N : News h₀ L s.heap news) (h1 : (ar, rowObj cs n) ∈ news) (h2 : (ad, rowObj ds nd) ∈ news) (c1 : ∀ c ∈ cs, (c.adr, c.obj) ∈ news) (c2 : ∀ c ∈ ds, (c.adr, c.obj) ∈ news)
    (e : cs.map Cell.wk = ds.map Cell.wk) (hok : ∀ p ∈ ds.map Cell.wk, OkW p.1) (hu : A.units + 64 < cLine) (h : Q (.bool false) s) : wpAny (model PySem.Challenge.rw_mr0367_01.prog w) A (compareOp .NotEq (.ref ar) (.ref ad)) Q E s := by
  obtain ⟨f1, r1⟩ := reads_cells cs fun c hc => (N _ (c1 c hc)).1
  obtain ⟨f2, r2⟩ := reads_cells ds fun c hc => (N _ (c2 c hc)).1
  rw [e] at r1
  obtain ⟨l1, l2⟩ := cellD_lay (ds.map Cell.wk) fun p hp => okW_lay (hok p hp)
  obtain ⟨s1, s2⟩ := same_cells (ds.map Cell.wk)
  have sh : SeqAt.shaped (.list ((ds.map Cell.wk).map cellD)) = true := by
    unfold SeqAt.shaped
    rw [Bool.and_eq_true]
    refine ⟨by rw [PyData.canLay0]; exact l1, ?_⟩
    rw [decide_eq_true_eq, PyData.depth]
    omega
  refine ne_dataH_same (da := .list ((ds.map Cell.wk).map cellD)) (db := .list ((ds.map Cell.wk).map cellD)) (.list (N _ h1).1 rfl rfl (by rw [List.toList_toArray]; exact r1)) (.list (N _ h2).1 rfl rfl (by rw [List.toList_toArray]; exact r2)) sh sh hu ?_ ?_
  · rw [SeqAt.noMix]; exact s2
  · rw [PySem.Spec.same, s1]; exact h
end
/-- a ledger without doubles -/
theorem exists_nodup {g h : Heap} {L : Addr} : ∀ {nw : List (Addr × Obj)}, News g L h nw → ∃ nw' : List (Addr × Obj), (nw'.map (·.1)).Nodup ∧ ∀ q, q ∈ nw' ↔ q ∈ nw
  | [], _ => ⟨[], by simp, fun _ => Iff.rfl⟩
  | p :: r, N => by
    obtain ⟨r', h1, h2⟩ := exists_nodup (nw := r) fun q hq => N q (.tail _ hq)
    by_cases hp : p.1 ∈ r'.map (·.1)
    · obtain ⟨q, hq, e⟩ := List.mem_map.mp hp
      have hpq : p = q := by
        have a := (N p (.head _)).1
        have b := (N q (.tail _ ((h2 q).mp hq))).1
        rw [e, a] at b
        exact Prod.ext e.symm (Option.some.inj b)
      refine ⟨r', h1, fun z => ⟨fun hz => .tail _ ((h2 z).mp hz), fun hz => ?_⟩⟩
      rcases List.mem_cons.mp hz with rfl | hz
      · rw [hpq]; exact hq
      · exact (h2 z).mpr hz
    · refine ⟨p :: r', by rw [List.map_cons, List.nodup_cons]; exact ⟨hp, h1⟩, fun z => ?_⟩
      simp only [List.mem_cons, h2]
theorem put_mem {a : Addr} {o' : Obj} {news : List (Addr × Obj)} {q : Addr × Obj} (h : q ∈ news) (hne : q.1 ≠ a) : q ∈ put a o' news := put_other h hne
section
variable {w : World} {f ar : Addr} {cs : List Cell} {n : Nat} {c : Cell} {i : Nat}
theorem Inserts.use (G : Inserts w f ar cs n c i) {p : Program} {loose : List Str} {mean : ExcName → Option Value} {mg mb : Str → Option Value} {news : List (Addr × Obj)} {dp un : Nat} {gd : Option (List Code)} {cn : Str} {sc : Scope} {a : Addr} {ccd : Value} {cl : List (Str × Addr)} {outer : List Env} {A₀ : Around} {base h₀ : Heap} {L : Addr} {m : Str → Option Value} {s : Shared} {Q E : Value → Shared → Prop}
    (B : Below A₀ base outer h₀) (F : Fr h₀ L s.heap m) (X : (K w.params).In h₀) (N : News h₀ L s.heap news) (T : Top p loose mean mg mb h₀) (hk : sc.kind = .function) (hd : dp + 6 < recursionLimit) (hu : un + 60 < cLine)
    (hR : RowAt ar cs n news) (hc : (c.adr, c.obj) ∈ news) (hcO : c.Ok)
    (ret : ∀ h' tk', Fr h₀ L h' m → (∀ q ∈ news, q.1 ≠ ar → News h₀ L h' [q]) → News h₀ L h' [(ar, rowObj (cs.take i ++ c :: cs.drop i) (n + 1))] → Q .none { s with heap := h', toks := tk' }) :
    wpAny (model PySem.Challenge.rw_mr0367_01.prog w) (ktrTop dp un gd cn sc L a ccd cl outer) (call (.ref f) [.ref ar, .ref c.adr] [(S "key", .ref 809)]) Q E s := by
  obtain ⟨nw', h1, h2⟩ := exists_nodup N
  refine G _ _ _ _ _ nw' _ _ _ _ _ _ _ _ _ _ _ _ _ _ _ _ _ B F X (fun q hq => N q ((h2 q).mp hq)) T hk hd hu ⟨(h2 _).mpr hR.row, fun c hc => (h2 _).mpr (hR.cells c hc), hR.ok, hR.short⟩ ((h2 _).mpr hc) hcO h1 ?_
  intro h' tk' F' N'
  refine ret h' tk' F' (fun q hq hne z hz => ?_) (fun z hz => ?_)
  · rw [List.mem_singleton.mp hz]; exact N' q (put_other ((h2 q).mpr hq) hne)
  · rw [List.mem_singleton.mp hz]; exact N' _ (put_self ((h2 _).mpr hR.row))
end
end
section
open PySem PySem.W PySem.Calls PyProof.Rows PyProof.Rows.LCg PyProof.Rows.LCt
section
variable {w : World} {A A₀ : Around} {s : Shared} {k : Frag} {L : Addr} {h₀ base : Heap} {m mg mb : Str → Option Value} {news : List (Addr × Obj)} {p : Program} {loose : List Str} {mean : ExcName → Option Value}
/-- a def with cells is entered: its parts made explicit -/
theorem enterC {env : Env} {outer : List Env} {R : Result → Shared → Prop} {name qual : Str} {stm : Stmt} {pr : Arguments} {b : List Stmt} {sc : Scope} {dV kV doc pm cdv ct oc : Value} {an od : Option Addr} {osl : Array (Option Value)} {f : Addr} {args : Args} {binds : List (Str × Value)}
    (hp : fParams stm = pr) (hb : fBody stm = b) (hsc : fScope stm = sc)
    (B : Below A₀ base outer h₀) (F : Fr h₀ L s.heap m) (X₀ : k.In h₀) (N : News h₀ L s.heap news) (T : Top p loose mean mg mb h₀) (hA : A.frames = some (env :: outer)) (hf : env.frame = some L) (hke : env.scope.kind = .function)
    (ho : k.lookup f = some ⟨oc, od, .func (fnS stm name qual dV kV doc pm an cdv ct), osl⟩) (hcd : codeIn k cdv qual = true) (hroom : A.depth < recursionLimit)
    (hbind : BindsTo s (fnS stm name qual dV kV doc pm an cdv ct) args binds) (hkind : (binds.all fun y => sc.names.lookup y.1 == some .local || sc.names.lookup y.1 == some .cell) = true)
    (hnd : ((cellsFrom 0 sc.names []).map (·.1)).Nodup)
    (h : ∀ g L' h₁ tk cells, Fr h₀ L g m → Fr g L' h₁ (bindL (envOfC qual sc L' f cdv).kindOf binds fun _ => none) → News g L' h₁ (cells ++ news) →
      CellsAre (bindC (envOfC qual sc L' f cdv).kindOf binds fun _ => none) (cellsFrom (L' + 1) sc.names []) cells → Below A base (env :: outer) g → k.In g → Top p loose mean mg mb g → (∀ p ∈ news, p.1 < L') →
      wpAny (model PySem.Challenge.rw_mr0367_01.prog w) (A.deeper (envOfC qual sc L' f cdv)) (execs b (envOfC qual sc L' f cdv))
        (fun fl s' => LeaveK h₀ L m g R (match fl with | .ret v => v | _ => .none) s')
        (fun e s' => wpAny (model PySem.Challenge.rw_mr0367_01.prog w) (A.deeper (envOfC qual sc L' f cdv)) (leaving (envOfC qual sc L' f cdv) e) (fun _ s'' => R (.error e) s'') (fun e' s'' => R (.error e') s'') s')
        { s with heap := h₁, toks := tk })
    (hco : sc.isCoroutine = false) (hgen : sc.isGenerator = false) (hk : sc.kind = .function) : codeAny (model PySem.Challenge.rw_mr0367_01.prog w) A (.call (.ref f) args) R s := by
  subst hp hb hsc
  exact code_defC B F X₀ N T hA hf hke ho hcd hroom hbind hkind hnd h hco hgen hk
end
local macro_rules | `(tactic| walk_at "my casesC") => `(tactic| ((case kA => exact rfl); (case kF => exact rfl); (case kK => assumption); (case k1 => k_asm); (case k2 => k_asm); (case k3 => k_asm); (case k4 => k_asm); (case k5 => k_asm); (case k6 => k_is); (case hp => (conv => lhs; whnf)); (case hb => (conv => lhs; whnf)); (case hsc => (conv => lhs; whnf)); (case k7 => k_is); (case k8 => ktr_room); (case k9 => exact BindsTo.of_eq rfl); (case kB => exact rfl); (case kD => decide +kernel); (case c2 => exact rfl); (case c3 => exact rfl); (case c4 => exact rfl); k_whole))
local macro_rules | `(tactic| walk_at "my steps") => `(tactic| repeat' ((fail_if_success (with_reducible show wpAny _ _ (exec (Stmt.For _ _ _ _ _) _) _ _ _)); (fail_if_success (with_reducible show wpAny _ _ (pyIter _) _ _ _)); (fail_if_success (with_reducible show wpAny _ _ (eval (Expr.ListComp _ _ _ _) _) _ _ _)); (fail_if_success (with_reducible show wpAny _ _ (call (Value.ref 71) _ _) _ _ _)); (fail_if_success (with_reducible show wpAny _ _ (call (Value.ref 53) _ _) _ _ _)); (fail_if_success (with_reducible show wpAny _ _ (compareOp CmpOp.NotEq (Value.ref _) (Value.ref _)) _ _ _)); (first | (k_unfold; (try dsimp only)) | (k_end; wrow_close) | walk1 | (dsimp only; walk1) | (leave1; walk_say "STEP leave1"; try dsimp only) | fail "no step")))
theorem getD_mem {ws : List (List Nat)} {i : Nat} (h : i < ws.length) : ws.getD i [] ∈ ws := by
  rw [List.getD_eq_getElem?_getD, List.getElem?_eq_getElem h]
  exact List.getElem_mem h
theorem putAt_length (r : Row) (j : Nat) (p : List Nat × Int) : (putAt r j p).length = r.length + 1 := by
  unfold putAt
  simp
  omega
theorem rowOf_length (ws : List (List Nat)) : ∀ i, (rowOf ws i).length = i
  | 0 => rfl
  | i + 1 => by
    show (stepR _ _ _).length = _
    unfold stepR
    split <;> rw [putAt_length, rowOf_length ws i]
theorem filt_yes {ds : List Cell} {j : Nat} {f : Cell → Bool} (h : j < ds.length) (hq : f ds[j] = true) : ((ds.take j).filter f).map Cell.val ++ [.ref ds[j].adr] = ((ds.take (j + 1)).filter f).map Cell.val := by
  rw [List.take_add_one, List.getElem?_eq_getElem h, List.filter_append, List.map_append]
  simp [hq]
theorem filt_no {ds : List Cell} {j : Nat} {f : Cell → Bool} (h : j < ds.length) (hq : f ds[j] = false) : ((ds.take j).filter f).map Cell.val = ((ds.take (j + 1)).filter f).map Cell.val := by
  rw [List.take_add_one, List.getElem?_eq_getElem h, List.filter_append, List.map_append]
  simp [hq]
theorem eq_is {a : Str} {x : List Nat} : (a == (⟨x.toArray⟩ : Str)) = (a.cps.toList == x) := by
  rw [Bool.eq_iff_iff, beq_iff_eq, beq_iff_eq]
  constructor
  · rintro rfl; rfl
  · rintro rfl; exact Str.ext' (by simp)
theorem RowAt.cons {ar : Addr} {cs : List Cell} {n : Nat} {nw : List (Addr × Obj)} (h : RowAt ar cs n nw) (p : Addr × Obj) : RowAt ar cs n (p :: nw) := ⟨.tail _ h.row, fun c hc => .tail _ (h.cells c hc), h.ok, h.short⟩
local macro_rules | `(tactic| walk_at "my row") => `(tactic| first | assumption | (refine RowAt.cons ?_ _; walk_at "my row"))
local macro_rules | `(tactic| walk_at "call ref") => `(tactic| (k_here; (with_reducible show wpAny _ _ (call (Value.ref 795) _) _ _ _); k_dflt (refine' Gives.use (quote_ok _ _ _ ?q1 ?q2) ?k1 ?k2 ?k3 ?k4 ?k5 ?kK ?kd ?ku ?_; (case q1 => assumption); (case q2 => assumption); (case k1 => k_asm); (case k2 => k_asm); (case k3 => k_asm); (case k4 => k_asm); (case k5 => k_asm); (case kK => first | exact rfl | assumption); (case kd => ktr_room); (case ku => ktr_units); k_whole; intro t9 h9 tk9 F9 N9; (try dsimp only); (try k_fold))))
local macro_rules | `(tactic| walk_at "call ref") => `(tactic| (k_here; (with_reducible show wpAny _ _ (call (Value.ref 80) _ _) _ _ _); k_dflt (refine' GivesIf.use (bisL_ok _ _ _ _ _ _) ?k1 ?k2 ?k3 ?k4 ?k5 ?kK ?kd ?ku ?q2 ?_; (case k1 => k_asm); (case k2 => k_asm); (case k3 => k_asm); (case k4 => k_asm); (case q2 => walk_at "my row"); (case k5 => k_asm); (case kK => first | exact rfl | assumption); (case kd => ktr_room); (case ku => ktr_units); k_whole; intro t9 h9 tk9 F9 N9; (try dsimp only); (try k_fold))))
local macro_rules | `(tactic| walk_at "call ref") => `(tactic| (k_here; (with_reducible show wpAny _ _ (call (Value.ref 62) _ _) _ _ _); k_dflt (refine' GivesIf.use (bisR_ok _ _ _ _ _ _) ?k1 ?k2 ?k3 ?k4 ?k5 ?kK ?kd ?ku ?q2 ?_; (case k1 => k_asm); (case k2 => k_asm); (case k3 => k_asm); (case k4 => k_asm); (case q2 => walk_at "my row"); (case k5 => k_asm); (case kK => first | exact rfl | assumption); (case kd => ktr_room); (case ku => ktr_units); k_whole; intro t9 h9 tk9 F9 N9; (try dsimp only); (try k_fold))))
local macro_rules | `(tactic| walk_at "subscriptTail Name Slice ref ref") => `(tactic| (k_here; (with_reducible show wpAny _ _ (subscriptTail _ (PySem.Expr.Slice _ _ none _) (Value.ref _) (Value.ref _)) _ _ _); k_dflt (first | refine' cut_lo ?F ?N ?m ?a ?b ?z ?_ ?s ?t | refine' cut_hi ?F ?N ?m ?a ?b ?z ?_ ?s ?t); (case F => k_asm); (case N => k_asm); (case m => k_mem); (case a => omega); (case b => (simp only [List.size_toArray]; omega)); (case z => omega); (case s => with_unfolding_all rfl); (case t => intro _; with_unfolding_all rfl); intro D9 h9 F9 N9 l9; (try k_lt l9); (try dsimp only); (try k_fold)))
local macro_rules | `(tactic| walk_at "binaryOp Add ref ref") => `(tactic| (k_here; (with_reducible show wpAny _ _ (binaryOp _ (Value.ref _) (Value.ref _)) _ _ _); k_dflt (refine' add_any ?F ?N ?a ?b ?z ?_; (case F => k_asm); (case N => k_asm); (case a => k_mem); (case b => k_mem); (case z => (simp only [List.length_append, List.length_map, List.length_take, List.length_drop, List.length_cons, List.length_nil, List.length_singleton]; omega)); k_whole); intro D9 h9 F9 N9 l9; (try k_lt l9); (try dsimp only); (try k_fold)))
theorem small_n {n : Nat} (h : n ≤ 100) : Builtin.Range.small 0 ((n : Nat) : Int) 1 = true := by
  have : ∀ n : Fin 101, Builtin.Range.small 0 ((n.val : Nat) : Int) 1 = true := by decide +kernel
  exact this ⟨n, by omega⟩
section
variable {prog : Program} {w : World} {A : Around} {E : Value → Shared → Prop} {s : Shared} {h₀ : Heap} {L : Addr} {m : Str → Option Value} {env : Env}
/-- the turns of a comprehension without a test, by an invariant -/
theorem compU_by {elt : Expr} {x : Str} {scope : Scope} {cl : List (Str × Addr)} {S : List (Addr × Obj) → Prop} {P : Nat → Value → Prop} {Fin : List Value → List (Addr × Obj) → Prop} {n : Nat}
    (J : Nat → List Value → List (Addr × Obj) → Prop) (fin : ∀ ys nw, J n ys nw → Fin ys nw)
    (turn : ∀ i ys news, i < n → J i ys news → ∀ v I oI C oC D m₂ h tk (E' : Value → Shared → Prop), P i v → NsObj oC m₂ → m₂ x = some v → Fr h₀ L h m → News h₀ L h ((I, oI) :: (C, oC) :: (D, lst ys) :: news) → Off3 I C D news → ((@Ne Nat I C) ∧ (@Ne Nat I D) ∧ (@Ne Nat C D)) →
      wpAny (model prog w) A (eval elt (compEnvC scope cl C env)) (CompEnd h₀ L m { s with heap := h, toks := tk } I oI C oC D (lst ys) S (fun y news' => J (i + 1) (ys ++ [y]) news')) E' { s with heap := h, toks := tk }) :
    ∀ k i ys news, i + k = n → J i ys news → CompRest prog w A h₀ L m env elt x scope cl s S P Fin k i ys news := by
  intro k
  induction k with
  | zero =>
    intro i ys news e hJ
    exact CompRest.zero (fin _ _ (by rw [← e]; exact hJ))
  | succ k ih =>
    intro i ys news e hJ
    refine CompRest.succ ?_
    intro v I oI C oC D m₂ h tk E' hv hC hx F N o ne
    exact wpAny_mono (turn i ys news (by omega) hJ v I oI C oC D m₂ h tk E' hv hC hx F N o ne) (fun y s₂ z => CompEnd.mono z fun nw r => ih (i + 1) _ _ (by omega) r) fun _ _ q => q
end
/-- the frame of _law_kept -/
abbrev kM (lw ar ad : Addr) (kv av bv : Option Value) (y : Str) : Option Value :=
  if y = S "k" then kv else if y = S "ahead" then av else if y = S "behind" then bv else if y = S "due" then some (.ref ad) else if y = S "row" then some (.ref ar) else if y = S "words" then some (.ref lw) else none
abbrev rgI (i n : Int) : Obj := { cls := .type "range_iterator", data := .fields #[rawInt i, rawInt n, rawInt 1] }
structure KFacts (L1 I lw ar ad : Addr) (cs ds : List Cell) (tl : List (Addr × Obj)) (row : Row) (nw0 : List (Addr × Obj)) : Prop where
  c1 : ∀ c ∈ cs, (c.adr, c.obj) ∈ tl ∧ c.Ok
  c2 : ∀ c ∈ ds, (c.adr, c.obj) ∈ tl ∧ c.Ok
  e1 : cs.map Cell.wk = row
  e2 : ds.map Cell.wk = row
  srt : Sorted row
  okw : ∀ p ∈ row, OkW p.1
  ne1 : I ≠ L1 + 1
  ne2 : lw ≠ L1 + 1
  ne3 : ar ≠ L1 + 1
  ne4 : ad ≠ L1 + 1
  ne5 : ∀ q ∈ tl, q.1 ≠ L1 + 1
  ne6 : I ≠ ar
  ne7 : lw ≠ ar
  ne8 : ad ≠ ar
  ne9 : ∀ q ∈ tl, q.1 ≠ ar
  neI : lw ≠ I ∧ ad ≠ I ∧ ∀ q ∈ tl, q.1 ≠ I
  sub : ∀ q ∈ nw0, q ∈ tl
/-- the loop's state -/
def KInv (g : Heap) (L1 I lw ar : Addr) (acc : Array Value) (c : Nat) (ws : List (List Nat)) (nw0 : List (Addr × Obj)) (s₀ : Shared) (i : Nat) (s : Shared) : Prop :=
  ∃ h tk oc cv ad cs ds n nd tl kv av bv, s = { s₀ with heap := h, toks := tk } ∧ oc.data = .cell cv ∧ Fr g L1 h (kM lw ar ad kv av bv) ∧
    News g L1 h ((I, rgI (0 + (i : Nat) * 1) ((ws.length : Int) - (i : Nat))) :: (L1 + 1, oc) :: (lw, W.listOf acc c) :: (ar, rowObj cs n) :: (ad, rowObj ds nd) :: tl) ∧ KFacts L1 I lw ar ad cs ds tl (rowOf ws i) nw0
theorem kM_cast {lw ar ad Dd : Addr} {kv av bv k a b : Option Value} (y : Str) : (if y = Str.ofString "due" then some (.ref Dd) else if y = Str.ofString "behind" then b else if y = Str.ofString "ahead" then a else if y = Str.ofString "k" then k else kM lw ar ad kv av bv y) = kM lw ar Dd k a b y := by
  by_cases h1 : y = S "k"
  · subst h1; rfl
  by_cases h2 : y = S "ahead"
  · subst h2; rfl
  by_cases h3 : y = S "behind"
  · subst h3; rfl
  by_cases h4 : y = S "due"
  · subst h4; rfl
  unfold kM
  rw [if_neg h4, if_neg h3, if_neg h2, if_neg h1, if_neg h1, if_neg h2, if_neg h3, if_neg h4, if_neg h1, if_neg h2, if_neg h3, if_neg h4]
theorem par_even {i : Nat} (h : ((i : Nat) : Int).fmod 2 = 0) : i % 2 = 0 := by
  have := Int.fmod_eq_emod_of_nonneg (i : Int) (b := 2) (by decide)
  omega
theorem par_odd {i : Nat} (h : ((i : Nat) : Int).fmod 2 ≠ 0) : ¬ i % 2 = 0 := by
  have := Int.fmod_eq_emod_of_nonneg (i : Int) (b := 2) (by decide)
  omega
theorem kfacts_step {L1 I lw ar ad Dd lc lc2 : Addr} {cs ds : List Cell} {tl : List (Addr × Obj)} {ws : List (List Nat)} {i a : Nat} {x : List Nat} {t9 tv : Tok} {nw0 : List (Addr × Obj)} (K : KFacts L1 I lw ar ad cs ds tl (rowOf ws i) nw0) (hx : ws.getD i [] = x) (hxok : OkW x) (hxS : okS ⟨x.toArray⟩) (hxL : (⟨x.toArray⟩ : Str).length ≤ 1000)
    (ha : stepR (rowOf ws i) x i = putAt (rowOf ws i) a (x, i)) (h1 : lc ≠ L1 + 1 ∧ lc ≠ ar ∧ lc ≠ I) (h2 : lc2 ≠ L1 + 1 ∧ lc2 ≠ ar ∧ lc2 ≠ I) (h3 : Dd ≠ L1 + 1 ∧ Dd ≠ ar ∧ Dd ≠ I) :
    KFacts L1 I lw ar Dd (cs.take a ++ ⟨lc, ⟨x.toArray⟩, t9, (i : Int), tv⟩ :: cs.drop a) (ds.take a ++ ⟨lc2, ⟨x.toArray⟩, t9, (i : Int), tv⟩ :: ds.drop a) ((lc, (⟨lc, ⟨x.toArray⟩, t9, (i : Int), tv⟩ : Cell).obj) :: (lc2, (⟨lc2, ⟨x.toArray⟩, t9, (i : Int), tv⟩ : Cell).obj) :: tl) (rowOf ws (i + 1)) nw0 := by
  obtain ⟨c1, c2, e1, e2, srt, okw, ne1, ne2, ne3, ne4, ne5, ne6, ne7, ne8, ne9, neI, sub⟩ := K
  have er : rowOf ws (i + 1) = putAt (rowOf ws i) a (x, i) := by
    show stepR (rowOf ws i) (ws.getD i []) i = _
    rw [hx, ha]
  have em : ∀ (l : List Cell) (c : Addr), l.map Cell.wk = rowOf ws i → (l.take a ++ ⟨c, ⟨x.toArray⟩, t9, (i : Int), tv⟩ :: l.drop a).map Cell.wk = rowOf ws (i + 1) := fun l c h => by
    rw [er, ← h]
    unfold putAt
    simp [Cell.wk]
  refine ⟨?_, ?_, em cs lc e1, em ds lc2 e2, ?_, ?_, ne1, ne2, ne3, h3.1, ?_, ne6, ne7, h3.2.1, ?_, ⟨neI.1, h3.2.2, ?_⟩, fun q hq => .tail _ (.tail _ (sub q hq))⟩
  · intro c hc
    rcases List.mem_append.mp hc with hc | hc
    · exact ⟨.tail _ (.tail _ (c1 c (List.mem_of_mem_take hc)).1), (c1 c (List.mem_of_mem_take hc)).2⟩
    · rcases List.mem_cons.mp hc with rfl | hc
      · exact ⟨.head _, hxS, hxL⟩
      · exact ⟨.tail _ (.tail _ (c1 c (List.mem_of_mem_drop hc)).1), (c1 c (List.mem_of_mem_drop hc)).2⟩
  · intro c hc
    rcases List.mem_append.mp hc with hc | hc
    · exact ⟨.tail _ (.tail _ (c2 c (List.mem_of_mem_take hc)).1), (c2 c (List.mem_of_mem_take hc)).2⟩
    · rcases List.mem_cons.mp hc with rfl | hc
      · exact ⟨.tail _ (.head _), hxS, hxL⟩
      · exact ⟨.tail _ (.tail _ (c2 c (List.mem_of_mem_drop hc)).1), (c2 c (List.mem_of_mem_drop hc)).2⟩
  · rw [er, ← ha]; exact stepR_sorted srt okw hxok
  · rw [er]
    intro p hp
    unfold putAt at hp
    rcases List.mem_append.mp hp with hp | hp
    · exact okw p (List.mem_of_mem_take hp)
    · rcases List.mem_cons.mp hp with rfl | hp
      · exact hxok
      · exact okw p (List.mem_of_mem_drop hp)
  · intro q hq
    rcases List.mem_cons.mp hq with rfl | hq
    · exact h1.1
    · rcases List.mem_cons.mp hq with rfl | hq
      · exact h2.1
      · exact ne5 q hq
  · intro q hq
    rcases List.mem_cons.mp hq with rfl | hq
    · exact h1.2.1
    · rcases List.mem_cons.mp hq with rfl | hq
      · exact h2.2.1
      · exact ne9 q hq
  · intro q hq
    rcases List.mem_cons.mp hq with rfl | hq
    · exact h1.2.2
    · rcases List.mem_cons.mp hq with rfl | hq
      · exact h2.2.2
      · exact neI.2.2 q hq
local macro_rules | `(tactic| walk_at "call builtin:len") => `(tactic| (k_here; (with_reducible show wpAny _ _ (call (Value.builtin "len") [Value.ref _]) _ _ _); k_dflt (refine' len_any ?k1 ?k2 ?k3 ?_; (case k1 => k_asm); (case k2 => k_mem); (case k3 => first | assumption | omega); k_whole)))
local macro_rules | `(tactic| walk_at "subscriptTail Name Name ref int") => `(tactic| (k_here; k_dflt (refine' item_words ?k1 ?k2 ?k3 ?k4 ?k5 ?k6 ?_; (case k1 => k_asm); (case k2 => k_mem); (case k3 => assumption); (case k4 => omega); (case k5 => omega); (case k6 => omega); k_whole); intro t9; (try dsimp only)))
local macro_rules | `(tactic| k_all) => `(tactic| assumption)
local macro_rules | `(tactic| walk_at "my mem") => `(tactic| first | assumption | exact List.Mem.head _ | (refine List.Mem.tail _ ?_; walk_at "my mem"))
local macro_rules | `(tactic| walk_at "subscriptTail Name Constant ref int") => `(tactic| (k_here; (with_reducible show wpAny _ _ (subscriptTail _ _ (Value.ref _) (Value.int 0 _)) _ _ _); k_dflt (refine' item0 ?k1 ?k2 ?k3 ?_; (case k3 => exact rfl); (case k1 => k_asm); (case k2 => walk_at "my mem"); k_whole)))
local macro_rules | `(tactic| walk_at "call ref") => `(tactic| (k_here; (with_reducible show wpAny _ _ (call (Value.ref 821) _) _ _ _); k_dflt (refine' Gives.use (ahead_ok _ _ _ _ _ ?q1 ?q2 ?q3 ?q4) ?k1 ?k2 ?k3 ?k4 ?k5 ?kK ?kd ?ku ?_; (case q1 => assumption); (case q2 => assumption); (case q3 => assumption); (case q4 => assumption); (case k1 => k_asm); (case k2 => k_asm); (case k3 => k_asm); (case k4 => k_asm); (case k5 => k_asm); (case kK => first | exact rfl | assumption); (case kd => ktr_room); (case ku => ktr_units); k_whole; intro t9 h9 tk9 F9 N9; (try dsimp only); (try k_fold))))
theorem kept_ok (w : World) (lw : Addr) (acc : Array Value) (c : Nat) (ws : List (List Nat)) (hT : Txts acc.toList ws) (hw : ∀ x ∈ ws, (∀ c ∈ x, okC c = true) ∧ x.length ≤ 1000) (hn : ws.length ≤ 50) (hn0 : 1 ≤ ws.length) (news : List (Addr × Obj))
   (p' : Program) (loose : List Str) (mean : ExcName → Option Value) (mg mb : Str → Option Value) (dp un : Nat) (gd : Option (List Code)) (cn : Str) (sc : Scope) (a : Addr) (ccd : Value) (cl : List (Str × Addr)) (outer : List Env) (A₀ : Around) (base h₀ : Heap) (L : Addr) (m : Str → Option Value) (s : Shared) (Q E : Value → Shared → Prop)
    (B : Below A₀ base outer h₀) (F : Fr h₀ L s.heap m) (X : (K w.params).In h₀) (N : News h₀ L s.heap ((lw, W.listOf acc c) :: news)) (hlw : ∀ q ∈ news, q.1 ≠ lw) (T : Top p' loose mean mg mb h₀) (hk : sc.kind = .function) (hd : dp + 20 < recursionLimit) (hu : un + 500 < cLine)
    (hret : ∀ lt acc' c' h' tk', Fr h₀ L h' m → News h₀ L h' ((lt, lstO acc' c') :: news) → Txts acc'.toList ((rowOf ws ws.length).map (·.1)) → Q (.ref lt) { s with heap := h', toks := tk' }) :
    wpAny (model PySem.Challenge.rw_mr0367_01.prog w) (ktrTop dp un gd cn sc L a ccd cl outer) (call (.ref 826) [.ref lw]) Q E s := by
  revert X
  k_fill
  intro X
  refine wpAny_call ?_
  k_dflt (refine' enterC (binds := [(S "words", .ref lw)]) ?hp ?hb ?hsc ?k1 ?k2 ?k3 ?k4 ?k5 ?kA ?kF ?kK ?k6 ?k7 ?k8 ?k9 ?kB ?kD ?_ ?c2 ?c3 ?c4; walk_at "my casesC"; intro g L1 h1 tk1 cells FG F1 N1 Y1 B1 X1 T1 l1; (try dsimp only); (try k_lift B1); (try k_fold))
  k_cells Y1
  (try simp only [List.cons_append, List.nil_append] at N1)
  have hsz : acc.size = ws.length := by have := hT.len; simpa using this
  have hsz2 : acc.size ≤ 1000 := by omega
  walk_at "my steps"
  refine for_by ?_ (by intro _; rfl)
  walk_at "my steps"
  rename IsRange _ _ _ _ _ _ _ _ => hrg
  rename News g L1 _ _ => N4
  rename Fr g L1 _ _ => F4
  rename_i oc d1 ar hA1 l2 hA2 tk2 ad hA3 l3 hA4 F0 N0 h5 tk3 ta tb tc hkeep4
  clear F0 N0 hkeep4
  refine wpAny_pyIter_range hrg ?small ?_
  case small => rw [hsz]; exact small_n (by omega)
  have erg : Builtin.Range.rangeSize 0 (acc.size : Int) 1 = (ws.length : Int) - ((0 : Nat) : Int) := by rw [rangeSize_nat, hsz]; omega
  rw [erg]
  have N5 := N4.push F4 (rgI (0 + ((0 : Nat) : Int) * 1) ((ws.length : Int) - ((0 : Nat) : Int)))
  have F5 := F4.push (rgI (0 + ((0 : Nat) : Int) * 1) ((ws.length : Int) - ((0 : Nat) : Int)))
  have hlt4 : ∀ q ∈ (ad, W.listOf #[] 0) :: (ar, W.listOf #[] 0) :: (L1 + 1, oc) :: (lw, W.listOf acc c) :: news, q.1 < h5.objs.size := fun q hq => Heap.lt_size (N4 q hq).1
  have hI1 : ad < h5.objs.size := hlt4 _ (.head _)
  have hlw1 : lw < L1 := l1 _ (.head _)
  have hnw1 : ∀ q ∈ news, q.1 < L1 := fun q hq => l1 q (.tail _ hq)
  clear hlt4
  refine ⟨h5.objs.size, _, [h5.objs.size], ws.length, _, _, KInv g L1 h5.objs.size lw ar acc c ws news s, rfl, Walks.range rfl _ 0 1 ws.length, ?init, ?st, ?turn, ?fin⟩
  case init =>
    refine ⟨_, _, oc, _, ad, [], [], 0, 0, news, none, none, none, rfl, d1, Fr.cast F5 ?_, fun q hq => N5 q ?_, ?_⟩
    · intro y
      by_cases h1 : y = S "k"
      · subst h1; rfl
      by_cases h2 : y = S "ahead"
      · subst h2; rfl
      by_cases h3 : y = S "behind"
      · subst h3; rfl
      by_cases h4 : y = S "due"
      · subst h4; rfl
      by_cases h5 : y = S "row"
      · subst h5; rfl
      by_cases h6 : y = S "words"
      · subst h6; rfl
      show _ = kM lw ar ad none none none y
      unfold kM
      rw [if_neg h4, if_neg h5, if_neg h1, if_neg h2, if_neg h3, if_neg h4, if_neg h5, if_neg h6]
      show (if y = S "words" then _ else none) = none
      rw [if_neg h6]
    · simp only [List.mem_cons] at hq ⊢
      rcases hq with h | h | h | h | h | h
      · exact .inl h
      · exact .inr (.inr (.inr (.inl h)))
      · exact .inr (.inr (.inr (.inr (.inl h))))
      · exact .inr (.inr (.inl h))
      · exact .inr (.inl h)
      · exact .inr (.inr (.inr (.inr (.inr h))))
    · have l2' : @LT.lt Nat _ (L1 + 1) ar := l2.1
      have l3' : @LT.lt Nat _ ar ad := l3.1
      have hI1' : @LT.lt Nat _ ad h5.objs.size := hI1
      have hlw1' : @LT.lt Nat _ lw L1 := hlw1
      have hn' : ∀ (b : Addr), @LT.lt Nat _ L1 b → ∀ q ∈ news, q.1 ≠ b := fun b hb q hq => ne_lt (Nat.lt_trans (hnw1 q hq) hb)
      exact ⟨(fun _ h => nomatch h), (fun _ h => nomatch h), rfl, rfl, List.Pairwise.nil, (fun _ h => nomatch h), ne_gt (by omega), ne_lt (by omega), ne_gt (by omega), ne_gt (by omega), hn' _ (by omega), ne_gt (by omega), ne_lt (by omega), ne_gt (by omega), hn' _ (by omega), ⟨ne_lt (by omega), ne_lt (by omega), hn' _ (by omega)⟩, fun q hq => hq⟩
  case st =>
    rintro i s2 ⟨h, tk, oc, cv, ad, cs, ds, n, nd, tl, kv, av, bv, rfl, ho, F6, N6, K6⟩
    exact (N6 _ (.head _)).1
  case turn =>
    rintro i s2 hi ⟨h, tk, oc, cv, ad, cs, ds, n, nd, tl, kv, av, bv, rfl, ho, F6, N6, K6⟩ v h7 tk7 hv hst hkeep
    obtain ⟨tv, rfl⟩ := hv
    obtain ⟨F7, N7'⟩ := after_it F6 N6 hkeep (ne1 K6.ne1.symm (ne1 K6.neI.1 (ne1 K6.ne6.symm (ne1 K6.neI.2.1 K6.neI.2.2))))
    have N7 : News g L1 h7 ((h5.objs.size, rgI (0 + ((i + 1 : Nat) : Nat) * 1) ((ws.length : Int) - ((i + 1 : Nat) : Nat))) :: (L1 + 1, oc) :: (lw, W.listOf acc c) :: (ar, rowObj cs n) :: (ad, rowObj ds nd) :: tl) := fun q hq => by
      rcases List.mem_cons.mp hq with rfl | hq
      · exact ⟨hst, (N6 _ (.head _)).2⟩
      · exact N7' q hq
    clear N6 F6 hkeep N7'
    rw [show (0 + ((i : Nat) : Int) * 1) = (i : Int) by omega]
    obtain ⟨c1, c2, e1, e2, srt, okw, ne1, ne2, ne3, ne4, ne5, ne6, ne7, ne8, ne9, neI, sub⟩ := K6
    dsimp only
    walk_at "my steps"
    rename News g L1 _ _ => N8
    rename Fr g L1 _ _ => F8
    rename (_ = Data.cell (some _)) => dw
    rename_i hZ tkZ t9 h8 ow
    rw [Int.toNat_natCast] at dw
    obtain ⟨hxok, hxl⟩ := hw _ (getD_mem hi)
    generalize hx : ws.getD i [] = x at *
    have hxS : okS ⟨x.toArray⟩ := okS_of hxok
    have hxL : (⟨x.toArray⟩ : Str).length ≤ 1000 := by show x.toArray.size ≤ 1000; simpa using hxl
    have hrl := rowOf_length ws i
    have hdl : ds.length = i := by rw [← hrl, ← e2, List.length_map]
    have hcl : cs.length = i := by rw [← hrl, ← e1, List.length_map]
    k_dflt (refine' ListComp_T F8 ?q1 ?q2 ?q3 ?q4 ?q5 ?_; (case q1 => with_unfolding_all rfl); (case q2 => decide); (case q3 => rfl); (case q4 => decide); (case q5 => rfl))
    walk_at "my steps"
    refine CompSrcT.ledger rfl F8 N8 (by k_mem) (by rw [sizeLine_eq, List.size_toArray, List.length_map]; omega) fun g1 => ?_
    refine compT_by (fun j ys nw => nw = _ ∧ ys = ((ds.take j).filter fun c => aheadF c.w.cps.toList x).map Cell.val) ?fin1 ?turn1 _ _ _ _ (Nat.zero_add _) ⟨rfl, rfl⟩
    case turn1 =>
      rintro j _ _ hj ⟨rfl, rfl⟩ v I2 oI2 C2 oC2 D2 m2 h2 tk2 E2 hv2 hC2 hx2 F2 N2 o2 ne2
      have hj' : j < ds.length := by simpa using hj
      have hv3 : v = .ref (ds[j]).adr := by simpa [hj'] using hv2.symm
      subst hv3
      obtain ⟨hcm, hcok⟩ := c2 _ (List.getElem_mem hj')
      obtain ⟨hcS, hcL⟩ := hcok
      clear F8 N8
      walk_at "my steps"
      · rename (aheadF _ _ = true) => hq
        exact CompEnd.intro (by assumption) (by assumption) _ (fun p hp => hp) o2 (.inr ⟨_, by k_mem, rfl, _, rfl⟩) ⟨rfl, filt_yes (f := fun c => aheadF c.w.cps.toList x) hj' hq⟩
      · rename (aheadF _ _ = false) => hq
        exact CompEnd.intro (by assumption) (by assumption) _ (fun p hp => hp) o2 (.inr ⟨_, by k_mem, rfl, _, rfl⟩) ⟨rfl, filt_no (f := fun c => aheadF c.w.cps.toList x) hj' hq⟩
    case fin1 =>
      rintro _ _ ⟨rfl, rfl⟩
      unfold FinE
      intro D1 h9 tk9 F9 N9 o9
      clear F8 N8 o9
      have hty : ((ds.take (ds.map Cell.val).toArray.size).filter fun c => aheadF c.w.cps.toList x) = ds.filter fun c => aheadF c.w.cps.toList x := by
        rw [List.size_toArray, List.length_map, List.take_length]
      rw [hty] at N9
      have hA1 : ((ds.filter fun c => aheadF c.w.cps.toList x).map Cell.val).length = cntA (rowOf ws i) x := by
        rw [List.length_map, ← e2]
        unfold cntA
        rw [List.filter_map, List.length_map]
        rfl
      have hA2 : cntA (rowOf ws i) x ≤ i := by
        unfold cntA
        exact Nat.le_trans (List.length_filter_le _ _) (Nat.le_of_eq hrl)
      have hA3 : ((ds.filter fun c => aheadF c.w.cps.toList x).map Cell.val).toArray.size ≤ 1000 := by rw [List.size_toArray, hA1]; omega
      dsimp only
      walk_at "my steps"
      rename News g L1 _ _ => N8
      rename Fr g L1 _ _ => F8
      have N8' : News g L1 _ ((h5.objs.size, rgI (0 + ((i + 1 : Nat) : Nat) * 1) ((ws.length : Int) - ((i + 1 : Nat) : Nat))) :: (L1 + 1, ow) :: (lw, W.listOf acc c) :: (ar, rowObj cs n) :: (ad, rowObj ds nd) :: tl) := fun q hq => N8 q (.tail _ hq)
      clear N8
      k_dflt (refine' ListComp_T F8 ?q1 ?q2 ?q3 ?q4 ?q5 ?_; (case q1 => with_unfolding_all rfl); (case q2 => decide); (case q3 => rfl); (case q4 => decide); (case q5 => rfl))
      walk_at "my steps"
      refine CompSrcT.ledger rfl F8 N8' (by k_mem) (by rw [sizeLine_eq, List.size_toArray, List.length_map]; omega) fun g2 => ?_
      refine compT_by (fun j ys nw => nw = _ ∧ ys = ((ds.take j).filter fun c => c.w.cps.toList == x).map Cell.val) ?fin2 ?turn2 _ _ _ _ (Nat.zero_add _) ⟨rfl, rfl⟩
      case turn2 =>
        rintro j _ _ hj ⟨rfl, rfl⟩ v I2 oI2 C2 oC2 D2 m2 h2 tk2 E2 hv2 hC2 hx2 F2 N2 o2 ne2
        have hj' : j < ds.length := by simpa using hj
        have hv3 : v = .ref (ds[j]).adr := by simpa [hj'] using hv2.symm
        subst hv3
        obtain ⟨hcm, hcok⟩ := c2 _ (List.getElem_mem hj')
        clear F8 N8'
        walk_at "my steps"
        · rename ((_ == _) = true) => hq
          exact CompEnd.intro (by assumption) (by assumption) _ (fun p hp => hp) o2 (.inr ⟨_, by k_mem, rfl, _, rfl⟩) ⟨rfl, filt_yes (f := fun c => c.w.cps.toList == x) hj' (by rw [← eq_is]; exact hq)⟩
        · rename ((_ == _) = false) => hq
          exact CompEnd.intro (by assumption) (by assumption) _ (fun p hp => hp) o2 (.inr ⟨_, by k_mem, rfl, _, rfl⟩) ⟨rfl, filt_no (f := fun c => c.w.cps.toList == x) hj' (by rw [← eq_is]; exact hq)⟩
      case fin2 =>
        rintro _ _ ⟨rfl, rfl⟩
        unfold FinE
        intro D2 h9 tk9 F9 N9 o9
        clear F8 N8' o9
        have hty : ((ds.take (ds.map Cell.val).toArray.size).filter fun c => c.w.cps.toList == x) = ds.filter fun c => c.w.cps.toList == x := by
          rw [List.size_toArray, List.length_map, List.take_length]
        rw [hty] at N9
        have hE1 : ((ds.filter fun c => c.w.cps.toList == x).map Cell.val).length = cntE (rowOf ws i) x := by
          rw [List.length_map, ← e2]
          unfold cntE
          rw [List.filter_map, List.length_map]
          rfl
        have hE2 : cntE (rowOf ws i) x ≤ i := by
          unfold cntE
          exact Nat.le_trans (List.length_filter_le _ _) (Nat.le_of_eq hrl)
        have hE3 : ((ds.filter fun c => c.w.cps.toList == x).map Cell.val).toArray.size ≤ 1000 := by rw [List.size_toArray, hE1]; omega
        have hRa : RowAt ar cs n ((h5.objs.size, rgI (0 + ((i + 1 : Nat) : Nat) * 1) ((ws.length : Int) - ((i + 1 : Nat) : Nat))) :: (L1 + 1, ow) :: (lw, W.listOf acc c) :: (ar, rowObj cs n) :: (ad, rowObj ds nd) :: tl) := ⟨by k_mem, fun c hc => .tail _ (.tail _ (.tail _ (.tail _ (.tail _ (c1 c hc).1)))), fun c hc => (c1 c hc).2, by omega⟩
        have hbL : bis (leftAt cs (quoteF ⟨x.toArray⟩)) cs.length 0 cs.length = cntA (rowOf ws i) x := bisL_cnt e1 srt okw hxok
        have hbR : bis (rightAt cs (quoteF ⟨x.toArray⟩)) cs.length 0 cs.length = cntA (rowOf ws i) x + cntE (rowOf ws i) x := bisR_cnt e1 srt okw hxok
        have hAE : cntA (rowOf ws i) x + cntE (rowOf ws i) x ≤ i := by rw [← hbR, ← hcl]; exact bis_le _ _ _ _ (Nat.zero_le _)
        dsimp only
        walk_at "my steps"
        · rename (_ ≠ _) => hq
          rw [hbL, List.size_toArray, hA1] at hq
          exact absurd rfl hq
        · rename (_ ≠ _) => hq
          rw [hbR, List.size_toArray, List.size_toArray, hA1, hE1] at hq
          exact absurd (by omega) hq
        · rename (Int.fmod _ 2 = 0) => hp0
          rename News g L1 _ _ => N10
          rename Fr g L1 _ _ => F10
          rename_i lc h10 hl1
          k_dflt refine Inserts.use (insL_ok w ar cs n ⟨lc, ⟨x.toArray⟩, t9, (i : Int), tv⟩) B1 F10 X1 N10 T1 rfl (by ktr_room) (by ktr_units) ((hRa.cons _).cons _) (.head _) ⟨hxS, hxL⟩ ?_
          intro h11 tk11 F11 Hq Hr
          rw [show (quoteF (⟨lc, ⟨x.toArray⟩, t9, (i : Int), tv⟩ : Cell).w) = quoteF ⟨x.toArray⟩ from rfl, hbL] at Hr
          have N11 : News g L1 h11 ((lc, (⟨lc, ⟨x.toArray⟩, t9, (i : Int), tv⟩ : Cell).obj) :: (h5.objs.size, rgI (0 + ((i + 1 : Nat) : Nat) * 1) ((ws.length : Int) - ((i + 1 : Nat) : Nat))) :: (L1 + 1, ow) :: (lw, W.listOf acc c) :: (ar, rowObj (cs.take (cntA (rowOf ws i) x) ++ ⟨lc, ⟨x.toArray⟩, t9, (i : Int), tv⟩ :: cs.drop (cntA (rowOf ws i) x)) (n + 1)) :: (ad, rowObj ds nd) :: tl) := fun q hq => by
            simp only [List.mem_cons] at hq
            rcases hq with rfl | rfl | rfl | rfl | rfl | rfl | hq
            · exact Hq _ (.head _) (ne_gt hl1.2.2.2.2.1) _ (List.mem_singleton.mpr rfl)
            · exact Hq _ (.tail _ (.tail _ (.head _))) ne6 _ (List.mem_singleton.mpr rfl)
            · exact Hq _ (.tail _ (.tail _ (.tail _ (.head _)))) ne3.symm _ (List.mem_singleton.mpr rfl)
            · exact Hq _ (.tail _ (.tail _ (.tail _ (.tail _ (.head _))))) ne7 _ (List.mem_singleton.mpr rfl)
            · exact Hr _ (List.mem_singleton.mpr rfl)
            · exact Hq _ (.tail _ (.tail _ (.tail _ (.tail _ (.tail _ (.tail _ (.head _))))))) ne8 _ (List.mem_singleton.mpr rfl)
            · exact Hq _ (.tail _ (.tail _ (.tail _ (.tail _ (.tail _ (.tail _ (.tail _ hq))))))) (ne9 q hq) _ (List.mem_singleton.mpr rfl)
          clear Hq Hr N10 F10
          dsimp only
          walk_at "my steps"
          rename News g L1 _ _ => N12
          rename Fr g L1 _ _ => F12
          rename_i Da ha la lc2 hb lb ll hcc lcc Db hd2 ld Dc he le Dd hf lf hg
          have ea : ((((ds.filter fun c => aheadF c.w.cps.toList x).map Cell.val).toArray.size : Nat) : Int).toNat = cntA (rowOf ws i) x := by rw [Int.toNat_natCast, List.size_toArray, hA1]
          rw [ea] at N12
          have er : W.listOf ((ds.take (cntA (rowOf ws i) x)).map Cell.val ++ [Value.ref lc2] ++ (ds.drop (cntA (rowOf ws i) x)).map Cell.val).toArray 0 = rowObj (ds.take (cntA (rowOf ws i) x) ++ ⟨lc2, ⟨x.toArray⟩, t9, (i : Int), tv⟩ :: ds.drop (cntA (rowOf ws i) x)) 0 := by
            simp [rowObj, W.listOf]
          rw [er] at N12
          have hpar : stepR (rowOf ws i) x i = putAt (rowOf ws i) (cntA (rowOf ws i) x) (x, i) := by
            unfold stepR
            rw [if_pos (par_even hp0)]
          have K13 := kfacts_step (lc := lc) (lc2 := lc2) (Dd := Dd) (t9 := t9) (tv := tv) ⟨c1, c2, e1, e2, srt, okw, ne1, ne2, ne3, ne4, ne5, ne6, ne7, ne8, ne9, neI, sub⟩ hx hxok hxS hxL hpar ⟨ne_gt (by omega), ne_gt (by omega), ne_gt (by omega)⟩ ⟨ne_gt (by omega), ne_gt (by omega), ne_gt (by omega)⟩ ⟨ne_gt (by omega), ne_gt (by omega), ne_gt (by omega)⟩
          have N13 : News g L1 hg ((h5.objs.size, rgI (0 + ((i + 1 : Nat) : Nat) * 1) ((ws.length : Int) - ((i + 1 : Nat) : Nat))) :: (L1 + 1, ow) :: (lw, W.listOf acc c) :: (ar, rowObj (cs.take (cntA (rowOf ws i) x) ++ ⟨lc, ⟨x.toArray⟩, t9, (i : Int), tv⟩ :: cs.drop (cntA (rowOf ws i) x)) (n + 1)) :: (Dd, rowObj (ds.take (cntA (rowOf ws i) x) ++ ⟨lc2, ⟨x.toArray⟩, t9, (i : Int), tv⟩ :: ds.drop (cntA (rowOf ws i) x)) 0) :: (lc, (⟨lc, ⟨x.toArray⟩, t9, (i : Int), tv⟩ : Cell).obj) :: (lc2, (⟨lc2, ⟨x.toArray⟩, t9, (i : Int), tv⟩ : Cell).obj) :: tl) := fun q hq => N12 q (by
            simp only [List.mem_cons] at hq ⊢
            rcases hq with h | h | h | h | h | h | h | h
            · exact .inr (.inr (.inr (.inr (.inr (.inr (.inr (.inl h)))))))
            · exact .inr (.inr (.inr (.inr (.inr (.inr (.inr (.inr (.inl h))))))))
            · exact .inr (.inr (.inr (.inr (.inr (.inr (.inr (.inr (.inr (.inl h)))))))))
            · exact .inr (.inr (.inr (.inr (.inr (.inr (.inr (.inr (.inr (.inr (.inl h))))))))))
            · exact .inl h
            · exact .inr (.inr (.inr (.inr (.inr (.inr (.inl h))))))
            · exact .inr (.inr (.inr (.inr (.inl h))))
            · exact .inr (.inr (.inr (.inr (.inr (.inr (.inr (.inr (.inr (.inr (.inr (.inr h))))))))))))
          clear N12
          refine ne_rows N13 (by k_mem) (by k_mem) (fun c hc => .tail _ (.tail _ (.tail _ (.tail _ (.tail _ (K13.c1 c hc).1))))) (fun c hc => .tail _ (.tail _ (.tail _ (.tail _ (.tail _ (K13.c2 c hc).1))))) (K13.e1.trans K13.e2.symm) (by rw [K13.e2]; exact K13.okw) (by ktr_units) ?_
          (try dsimp only)
          walk_at "my steps"
          exact ⟨_, _, ow, _, Dd, _, _, n + 1, 0, _, some (.int i tv), some (.int _ _), some (.int _ _), rfl, dw, Fr.cast F12 (kM_cast), N13, K13⟩
        · rename (Int.fmod _ 2 ≠ 0) => hp0
          rename News g L1 _ _ => N10
          rename Fr g L1 _ _ => F10
          rename_i lc h10 hl1
          k_dflt refine Inserts.use (insR_ok w ar cs n ⟨lc, ⟨x.toArray⟩, t9, (i : Int), tv⟩) B1 F10 X1 N10 T1 rfl (by ktr_room) (by ktr_units) ((hRa.cons _).cons _) (.head _) ⟨hxS, hxL⟩ ?_
          intro h11 tk11 F11 Hq Hr
          rw [show (quoteF (⟨lc, ⟨x.toArray⟩, t9, (i : Int), tv⟩ : Cell).w) = quoteF ⟨x.toArray⟩ from rfl, hbR] at Hr
          have N11 : News g L1 h11 ((lc, (⟨lc, ⟨x.toArray⟩, t9, (i : Int), tv⟩ : Cell).obj) :: (h5.objs.size, rgI (0 + ((i + 1 : Nat) : Nat) * 1) ((ws.length : Int) - ((i + 1 : Nat) : Nat))) :: (L1 + 1, ow) :: (lw, W.listOf acc c) :: (ar, rowObj (cs.take (cntA (rowOf ws i) x + cntE (rowOf ws i) x) ++ ⟨lc, ⟨x.toArray⟩, t9, (i : Int), tv⟩ :: cs.drop (cntA (rowOf ws i) x + cntE (rowOf ws i) x)) (n + 1)) :: (ad, rowObj ds nd) :: tl) := fun q hq => by
            simp only [List.mem_cons] at hq
            rcases hq with rfl | rfl | rfl | rfl | rfl | rfl | hq
            · exact Hq _ (.head _) (ne_gt hl1.2.2.2.2.1) _ (List.mem_singleton.mpr rfl)
            · exact Hq _ (.tail _ (.tail _ (.head _))) ne6 _ (List.mem_singleton.mpr rfl)
            · exact Hq _ (.tail _ (.tail _ (.tail _ (.head _)))) ne3.symm _ (List.mem_singleton.mpr rfl)
            · exact Hq _ (.tail _ (.tail _ (.tail _ (.tail _ (.head _))))) ne7 _ (List.mem_singleton.mpr rfl)
            · exact Hr _ (List.mem_singleton.mpr rfl)
            · exact Hq _ (.tail _ (.tail _ (.tail _ (.tail _ (.tail _ (.tail _ (.head _))))))) ne8 _ (List.mem_singleton.mpr rfl)
            · exact Hq _ (.tail _ (.tail _ (.tail _ (.tail _ (.tail _ (.tail _ (.tail _ hq))))))) (ne9 q hq) _ (List.mem_singleton.mpr rfl)
          clear Hq Hr N10 F10
          dsimp only
          walk_at "my steps"
          rename News g L1 _ _ => N12
          rename Fr g L1 _ _ => F12
          rename_i Da ha la lc2 hb lb ll hcc lcc Db hd2 ld Dc he le Dd hf lf hg
          have ea : ((((ds.filter fun c => aheadF c.w.cps.toList x).map Cell.val).toArray.size : Int) + (((ds.filter fun c => c.w.cps.toList == x).map Cell.val).toArray.size : Int)).toNat = cntA (rowOf ws i) x + cntE (rowOf ws i) x := by rw [List.size_toArray, List.size_toArray, hA1, hE1]; omega
          rw [ea] at N12
          have er : W.listOf ((ds.take (cntA (rowOf ws i) x + cntE (rowOf ws i) x)).map Cell.val ++ [Value.ref lc2] ++ (ds.drop (cntA (rowOf ws i) x + cntE (rowOf ws i) x)).map Cell.val).toArray 0 = rowObj (ds.take (cntA (rowOf ws i) x + cntE (rowOf ws i) x) ++ ⟨lc2, ⟨x.toArray⟩, t9, (i : Int), tv⟩ :: ds.drop (cntA (rowOf ws i) x + cntE (rowOf ws i) x)) 0 := by
            simp [rowObj, W.listOf]
          rw [er] at N12
          have hpar : stepR (rowOf ws i) x i = putAt (rowOf ws i) (cntA (rowOf ws i) x + cntE (rowOf ws i) x) (x, i) := by
            unfold stepR
            rw [if_neg (par_odd hp0)]
          have K13 := kfacts_step (lc := lc) (lc2 := lc2) (Dd := Dd) (t9 := t9) (tv := tv) ⟨c1, c2, e1, e2, srt, okw, ne1, ne2, ne3, ne4, ne5, ne6, ne7, ne8, ne9, neI, sub⟩ hx hxok hxS hxL hpar ⟨ne_gt (by omega), ne_gt (by omega), ne_gt (by omega)⟩ ⟨ne_gt (by omega), ne_gt (by omega), ne_gt (by omega)⟩ ⟨ne_gt (by omega), ne_gt (by omega), ne_gt (by omega)⟩
          have N13 : News g L1 hg ((h5.objs.size, rgI (0 + ((i + 1 : Nat) : Nat) * 1) ((ws.length : Int) - ((i + 1 : Nat) : Nat))) :: (L1 + 1, ow) :: (lw, W.listOf acc c) :: (ar, rowObj (cs.take (cntA (rowOf ws i) x + cntE (rowOf ws i) x) ++ ⟨lc, ⟨x.toArray⟩, t9, (i : Int), tv⟩ :: cs.drop (cntA (rowOf ws i) x + cntE (rowOf ws i) x)) (n + 1)) :: (Dd, rowObj (ds.take (cntA (rowOf ws i) x + cntE (rowOf ws i) x) ++ ⟨lc2, ⟨x.toArray⟩, t9, (i : Int), tv⟩ :: ds.drop (cntA (rowOf ws i) x + cntE (rowOf ws i) x)) 0) :: (lc, (⟨lc, ⟨x.toArray⟩, t9, (i : Int), tv⟩ : Cell).obj) :: (lc2, (⟨lc2, ⟨x.toArray⟩, t9, (i : Int), tv⟩ : Cell).obj) :: tl) := fun q hq => N12 q (by
            simp only [List.mem_cons] at hq ⊢
            rcases hq with h | h | h | h | h | h | h | h
            · exact .inr (.inr (.inr (.inr (.inr (.inr (.inr (.inl h)))))))
            · exact .inr (.inr (.inr (.inr (.inr (.inr (.inr (.inr (.inl h))))))))
            · exact .inr (.inr (.inr (.inr (.inr (.inr (.inr (.inr (.inr (.inl h)))))))))
            · exact .inr (.inr (.inr (.inr (.inr (.inr (.inr (.inr (.inr (.inr (.inl h))))))))))
            · exact .inl h
            · exact .inr (.inr (.inr (.inr (.inr (.inr (.inl h))))))
            · exact .inr (.inr (.inr (.inr (.inl h))))
            · exact .inr (.inr (.inr (.inr (.inr (.inr (.inr (.inr (.inr (.inr (.inr (.inr h))))))))))))
          clear N12
          refine ne_rows N13 (by k_mem) (by k_mem) (fun c hc => .tail _ (.tail _ (.tail _ (.tail _ (.tail _ (K13.c1 c hc).1))))) (fun c hc => .tail _ (.tail _ (.tail _ (.tail _ (.tail _ (K13.c2 c hc).1))))) (K13.e1.trans K13.e2.symm) (by rw [K13.e2]; exact K13.okw) (by ktr_units) ?_
          (try dsimp only)
          walk_at "my steps"
          exact ⟨_, _, ow, _, Dd, _, _, n + 1, 0, _, some (.int i tv), some (.int _ _), some (.int _ _), rfl, dw, Fr.cast F12 (kM_cast), N13, K13⟩
  case fin =>
    rintro s2 ⟨h, tk, oc, cv, ad, cs, ds, n, nd, tl, kv, av, bv, rfl, ho, F6, N6, K6⟩ h7 tk7 hkeep
    obtain ⟨F7, N7⟩ := after_it F6 N6 hkeep (ne1 K6.ne1.symm (ne1 K6.neI.1 (ne1 K6.ne6.symm (ne1 K6.neI.2.1 K6.neI.2.2))))
    clear N6 F6 hkeep
    obtain ⟨c1, c2, e1, e2, srt, okw, ne1, ne2, ne3, ne4, ne5, ne6, ne7, ne8, ne9, neI, sub⟩ := K6
    have hcl : cs.length = ws.length := by rw [← rowOf_length ws ws.length, ← e1, List.length_map]
    dsimp only
    walk_at "my steps"
    k_dflt (refine' ListComp_U F7 ?q1 ?q2 ?q3 ?q4 ?q5 ?_; (case q1 => with_unfolding_all rfl); (case q2 => decide); (case q3 => rfl); (case q4 => decide); (case q5 => rfl))
    walk_at "my steps"
    refine CompSrc.ledger rfl F7 N7 (by k_mem) (by rw [sizeLine_eq, List.size_toArray, List.length_map]; omega) fun g1 => ?_
    refine compU_by (fun j ys nw => nw = _ ∧ Txts ys ((cs.take j).map fun c => c.w.cps.toList)) ?fin3 ?turn3 _ _ _ _ (Nat.zero_add _) ⟨rfl, .nil⟩
    case turn3 =>
      rintro j ys _ hj ⟨rfl, hys⟩ v I2 oI2 C2 oC2 D2 m2 h2 tk2 E2 hv2 hC2 hx2 F2 N2 o2 ne2
      have hj' : j < cs.length := by simpa using hj
      have hv3 : v = .ref (cs[j]).adr := by simpa [hj'] using hv2.symm
      subst hv3
      obtain ⟨hcm, hcok⟩ := c1 _ (List.getElem_mem hj')
      clear F7 N7
      walk_at "my steps"
      refine CompEnd.intro (by assumption) (by assumption) _ (fun p hp => hp) o2 (.inr ⟨_, by k_mem, rfl, _, rfl⟩) ⟨rfl, ?_⟩
      rw [List.take_add_one, List.getElem?_eq_getElem hj', List.map_append]
      have z := hys.snoc cs[j].w.cps.toList cs[j].tw
      have ez : (⟨cs[j].w.cps.toList.toArray⟩ : Str) = cs[j].w := Str.ext' (by simp)
      rw [ez] at z
      exact z
    case fin3 =>
      rintro ys _ ⟨rfl, hys⟩
      unfold FinE
      intro D1 h9 tk9 F9 N9 o9
      clear F7 N7 o9
      have hty : (cs.take (cs.map Cell.val).toArray.size) = cs := by rw [List.size_toArray, List.length_map, List.take_length]
      rw [hty] at hys
      have hys2 : (cs.map fun c => c.w.cps.toList) = (rowOf ws ws.length).map (·.1) := by rw [← e1, List.map_map]; rfl
      rw [hys2] at hys
      dsimp only
      walk_at "my steps"
      rename News h₀ L _ _ => N11
      refine hret D1 ys.toArray ys.length _ _ (by k_asm) (fun q hq => N11 q ?_) hys
      rcases List.mem_cons.mp hq with h | h
      · rw [h]; exact .head _
      · exact .tail _ (.tail _ (.tail _ (.tail _ (.tail _ (sub q h)))))
end
section
/-- a top that says nothing of the text's own parts -/
def p0 : Program := view PySem.Challenge.pw_mr0367_01 [0, 1]
theorem p0_recs : recsOf p0 = [] := by kernel_rfl
theorem p0_owns : ownsOf p0 = [] := by kernel_rfl
theorem q_imp : importsNone q = true := by kernel_rfl
theorem p0_val (x : Str) : valOf p0 x = none := by kernel_rfl
def loose0 (p : Program) (l : List Str) : List Str := l ++ ((recsOf p).map (·.name) ++ ((litsOf p).map (·.1) ++ (clssOf p l).map (·.name)))
theorem top0 {p : Program} (hpi : importsNone p = true) {l : List Str} {mean : ExcName → Option Value} {mg mb : Str → Option Value} {h : Heap} (T : Top p l mean mg mb h) {a : Addr} {ps : Array Value} (ha : h.get? a = some (tabO ps)) : Top p0 (loose0 p l) mean mg mb (h.hide a) := by
  have ns : ∀ {b : Addr} {m : Str → Option Value}, h.Ns b m → (h.hide a).Ns b m := fun {b m} x => by
    obtain ⟨o, es, ep, ho, hd, r⟩ := x
    refine ⟨o, es, ep, (Heap.hide_ne h fun (z : b = a) => ?_).trans ho, hd, r⟩
    rw [z, ha] at ho
    cases ho
    cases hd
  refine ⟨ns T.g, ns T.b, ?_, ?_, ?_, ?_, ?_, ?_, T.builtins, ?_, ?_, ?_⟩
  · obtain ⟨mc, h1, h2⟩ := T.nolimit; exact ⟨mc, ns h1, h2⟩
  · obtain ⟨mc, h1, h2⟩ := T.nodigits; exact ⟨mc, ns h1, h2⟩
  · rw [p0_recs]; intro d hd; cases hd
  · rw [p0_owns]; intro d hd; cases hd
  · intro x d hx; rw [p0_val] at hx; cases hx
  · intro x h1 h2 _ _ _
    unfold loose0 at h2
    simp only [List.mem_append, not_or] at h2
    exact T.free x h1 h2.1 h2.2.1 h2.2.2.1 h2.2.2.2
  · rw [p0_recs]; intro d hd; cases hd
  · obtain ⟨bm, ob, e1, e2, e3, e4, e5, e6⟩ := T.bmain
    refine ⟨bm, ob, e1, e2, (Heap.hide_ne h fun (z : bm = a) => ?_).trans e3, e4, e5, e6⟩
    rw [z, ha] at e3
    cases e3
    cases e4
  · intro _
    obtain ⟨⟨m1, x1, y1⟩, ⟨m2, x2, y2⟩, ⟨m3, x3, y3⟩, ⟨m4, bm, ob, x4, y4, z4, u4, v4⟩⟩ := T.seer hpi
    refine ⟨⟨m1, ns x1, y1⟩, ⟨m2, ns x2, y2⟩, ⟨m3, ns x3, y3⟩, ⟨m4, bm, ob, ns x4, y4, (Heap.hide_ne h fun (z : bm = a) => ?_).trans z4, u4, v4⟩⟩
    rw [z, ha] at z4
    cases z4
    cases u4
theorem k_no782 (P : Params) : (K P).lookup 782 = none := by kernel_rfl
theorem nm_law (P : Params) : nsIn (K P) mainGlobals (S "law") = some (some (.ref 833)) := by kernel_rfl
theorem in_hide {P : Params} {h : Heap} (X : (K P).In h) : (K P).In (h.hide 782) := fun b o e => by
  refine (Heap.hide_ne h fun (z : b = 782) => ?_).trans (X b o e)
  rw [z, k_no782] at e
  cases e
local macro_rules | `(tactic| walk_at "my casesA") => `(tactic| ((case k3 => k_asm); (case k5 => k_asm); (case k6 => k_is); (case hp => (conv => lhs; whnf)); (case hb => (conv => lhs; whnf)); (case hsc => (conv => lhs; whnf)); (case k7 => k_is); (case k8 => decide); (case k9 => exact BindsTo.of_eq rfl); (case c5 => decide); (case kB => exact locs rfl); (case c2 => exact rfl); (case c3 => exact rfl); (case c4 => exact rfl); k_whole))
local macro_rules | `(tactic| walk_at "my steps") => `(tactic| repeat' ((fail_if_success (with_reducible show wpAny _ _ (call (Value.ref 802) _ _) _ _ _)); (fail_if_success (with_reducible show wpAny _ _ (call (Value.ref 826) _ _) _ _ _)); (fail_if_success (with_reducible show wpAny _ _ (call (Value.ref 787) _ _) _ _ _)); (fail_if_success (with_reducible show wpAny _ _ (call (Value.ref 780) _ _) _ _ _)); (fail_if_success (with_reducible show wpAny _ _ (compareOp _ (Value.ref _) (Value.ref _)) _ _ _)); (first | (k_unfold; (try dsimp only)) | (k_end; wrow_close) | walk1 | (dsimp only; walk1) | (leave1; walk_say "STEP leave1"; try dsimp only) | fail "no step")))
section
variable {w : World} {A : Around} {E : Value → Shared → Prop} {s : Shared} {Q : Value → Shared → Prop} {h₀ : Heap} {L : Addr} {m : Str → Option Value} {news : List (Addr × Obj)}
def txtD (W : List (List Nat)) : List PyData := W.map fun x => PyData.str ⟨x.toArray⟩
theorem reads_txts {h : Heap} {vs : List Value} {W : List (List Nat)} (hT : Txts vs W) : ReadsAll h vs (txtD W) [] := by
  induction hT with
  | nil => exact .nil
  | cons _ ih => exact .cons (.str _ _) ih
theorem txt_lay : ∀ W : List (List Nat), (∀ x ∈ W, OkW x) → PyData.canLayAll0 (txtD W) = true ∧ PyData.depthAll (txtD W) = 0
  | [], _ => ⟨by simp [txtD, PyData.canLayAll0], rfl⟩
  | x :: r, h => by
    obtain ⟨h1, h2⟩ := txt_lay r fun y hy => h y (.tail _ hy)
    have h3 := okW_lay (h x (.head _))
    constructor
    · show PyData.canLayAll0 (.str ⟨x.toArray⟩ :: txtD r) = true
      rw [PyData.canLayAll0, h3, h1]
      rfl
    · show PyData.depthAll (.str ⟨x.toArray⟩ :: txtD r) = 0
      rw [PyData.depthAll, h2]
      rfl
theorem txt_mix : ∀ W : List (List Nat), SeqAt.noMixAll (txtD W) (txtD W) = true
  | [] => by simp [txtD, SeqAt.noMixAll]
  | x :: r => by
    show SeqAt.noMixAll (.str _ :: txtD r) (.str _ :: txtD r) = true
    rw [SeqAt.noMixAll, txt_mix r]
    simp [SeqAt.noMix]
theorem txt_shape {W : List (List Nat)} (h : ∀ x ∈ W, OkW x) : SeqAt.shaped (.list (txtD W)) = true := by
  obtain ⟨h1, h2⟩ := txt_lay W h
  unfold SeqAt.shaped
  rw [Bool.and_eq_true]
  refine ⟨by rw [PyData.canLay0]; exact h1, ?_⟩
  rw [decide_eq_true_eq, PyData.depth, h2]
  omega
theorem txt_reads {l : Addr} {acc : Array Value} {c : Nat} {W : List (List Nat)} (N : News h₀ L s.heap news) (hm : (l, lstO acc c) ∈ news) (hT : Txts acc.toList W) : Reads s.heap (.ref l) (.list (txtD W)) [l] := .list (N _ hm).1 rfl rfl (reads_txts hT)
theorem ne_none {l e : Addr} {acc : Array Value} {c : Nat} {W : List (List Nat)} (N : News h₀ L s.heap news) (h1 : (l, lstO acc c) ∈ news) (h2 : (e, PySem.W.listOf #[] 0) ∈ news) (hT : Txts acc.toList W) (hW : ∀ x ∈ W, OkW x) (hn : 1 ≤ W.length) (hu : A.units + 64 < cLine)
    (h : Q (.bool true) s) : wpAny (model PySem.Challenge.rw_mr0367_01.prog w) A (compareOp .NotEq (.ref l) (.ref e)) Q E s := by
  refine ne_dataH_same (db := .list []) (txt_reads N h1 hT) (.list (N _ h2).1 rfl rfl .nil) (txt_shape hW) (by decide) hu ?_ ?_
  · cases W with
    | nil => cases hn
    | cons x r => simp [txtD, SeqAt.noMix, SeqAt.noMixAll]
  · cases W with
    | nil => cases hn
    | cons x r => simpa [txtD, PySem.Spec.same, PySem.Spec.sameAll] using h
theorem eq_txts {l e : Addr} {acc acc2 : Array Value} {c c2 : Nat} {W : List (List Nat)} (N : News h₀ L s.heap news) (h1 : (l, lstO acc c) ∈ news) (h2 : (e, lstO acc2 c2) ∈ news) (hT : Txts acc.toList W) (hT2 : Txts acc2.toList W) (hW : ∀ x ∈ W, OkW x) (hu : A.units + 64 < cLine)
    (h : Q (.bool true) s) : wpAny (model PySem.Challenge.rw_mr0367_01.prog w) A (compareOp .Eq (.ref l) (.ref e)) Q E s := by
  refine eq_dataH_same (txt_reads N h1 hT) (txt_reads N h2 hT2) (txt_shape hW) (txt_shape hW) hu ?_ ?_
  · rw [SeqAt.noMix]; exact txt_mix W
  · rw [same_refl]; exact h
end
/-- the law's end -/
def EndsL (s₁ : Shared) (v : Value) (s' : Shared) : Prop := v = .bool true ∧ OldK s₁.heap s'.heap ∧ s'.os = s₁.os ∧ AllBare s'.gens
theorem law_ok (w : World) (D : Addr) (vs : List Value) (ns : List Int) (hi : IntsAre vs ns) (hlen : ns.length ≤ 63) (p : Program) (hpi : importsNone p = true) (l : List Str) (mean : ExcName → Option Value) (mg mb : Str → Option Value) (s₁ : Shared) (E : Value → Shared → Prop)
    (X1 : (KX w.params).In s₁.heap) (T : Top p l mean mg mb s₁.heap) (hD : s₁.heap.IsList D vs.toArray) (hg : s₁.gens = #[]) :
    wpAny (model PySem.Challenge.rw_mr0367_01.prog w) callerA (call (.ref 833) [.ref D]) (EndsL s₁) E s₁ := by
  have h782 : s₁.heap.get? 782 = some (tabO #[]) := X1 782 _ rfl
  have X : (K w.params).In s₁.heap := fun b o e => X1 b o (by
    show List.lookup b ((782, tabO #[]) :: K w.params) = some o
    rw [List.lookup_cons]
    by_cases hb : b = 782
    · rw [hb, k_no782] at e; cases e
    · rw [show (b == 782) = false from by simpa using hb]; exact e)
  have XH := in_hide X
  have TH := top0 hpi T h782
  have c786 := code786 w.params
  clear X1
  revert X XH c786
  k_fill
  intro X XH c786
  refine wpAny_call ?_
  k_dflt (refine' enterA (binds := [(S "script", .ref D)]) ?hp ?hb ?hsc ?k3 ?k5 ?k6 ?k7 ?k8 ?k9 ?kB ?_ ?c2 ?c3 ?c4 ?c5; walk_at "my casesA"; intro L1 h1 F0 N0; (try dsimp only); (try k_fold))
  have F1 : Fr (s₁.heap.hide 782) L1 h1 _ := ⟨F0.ns, fun b o e => F0.keep b o (Heap.of_hide e), by rw [Heap.hide_size]; exact F0.above⟩
  have N1 : News (s₁.heap.hide 782) L1 h1 [(782, tabO #[])] := fun q hq => by
    rw [List.mem_singleton.mp hq]
    refine ⟨F0.keep _ _ h782, fun z => ?_, Heap.hide_self ..⟩
    have := kts_self F0
    rw [← z, h782] at this
    cases this
  have B1 := below_caller (s₁.heap.hide 782)
  have hDH : (s₁.heap.hide 782).IsList D vs.toArray := by
    obtain ⟨o, e, r1, r2⟩ := hD
    refine ⟨o, (Heap.hide_ne _ fun (z : D = 782) => ?_).trans e, r1, r2⟩
    rw [z, h782] at e
    cases e
    cases r1
  clear F0 N0 X T
  walk_at "my steps"
  obtain ⟨g1, g2, g3⟩ := words_good ns
  obtain ⟨g4, g5, g6⟩ := told_good ns
  generalize hW : (rowOf (wordsF ns) (wordsF ns).length).map (·.1) = W at g4 g5 g6
  k_dflt refine words_ok w D vs ns hi hlen _ _ _ _ _ _ _ _ _ _ _ _ _ _ _ _ _ _ _ _ _ _ _ B1 F1 XH N1 hDH TH rfl (by decide) (by decide) ?_
  intro lw acc c h2 tk2 F2 N2 hT2 hl2
  clear F1 N1
  (try dsimp only)
  walk_at "my steps"
  rename Fr _ _ _ _ => F3
  rename News _ _ _ _ => N3
  k_dflt refine kept_ok w lw acc c (wordsF ns) hT2 (fun x hx => ⟨(g1 x hx).1, Nat.le_trans (g1 x hx).2 (by decide)⟩) (by omega) g3 [(782, tabO #[])] _ _ _ _ _ _ _ _ _ _ _ _ _ _ _ _ _ _ _ _ _ _ B1 F3 XH N3 (fun q hq => ne_lt (hl2 q hq)) TH rfl (by decide) (by decide) ?_
  intro lt acc2 c2 h4 tk4 F4 N4 hT4
  rw [hW] at hT4
  clear F3 N3
  (try dsimp only)
  walk_at "my steps"
  rename Fr _ _ _ _ => F5
  rename News _ _ _ _ => N5
  have hne : lt ≠ 782 := fun z => by
    have a1 := (N5 _ (.tail _ (.head _))).1
    have a2 := (N5 _ (.tail _ (.tail _ (.head _)))).1
    rw [z, a2] at a1
    cases a1
  refine ne_none N5 (by k_mem) (by k_mem) hT4 (fun x hx => (g4 x hx).1) g6 (show 7 + 64 < cLine by decide) ?_
  (try dsimp only)
  walk_at "my steps"
  k_dflt refine join_ok w lt acc2 c2 W hT4 (fun x hx => ⟨(g4 x hx).1, Nat.le_trans (g4 x hx).2 (by decide)⟩) (by omega) [(lt, lstO acc2 c2)] (fun q hq => by rw [List.mem_singleton.mp hq]; exact hne) _ _ _ _ _ _ _ _ _ _ _ _ _ _ _ _ _ _ _ _ _ _ B1 F5 XH (fun q hq => N5 q ?mm) (.head _) TH rfl (by decide) (by decide) (AllBare.of_eq hg) ?_
  case mm =>
    simp only [List.mem_cons, List.not_mem_nil, or_false] at hq ⊢
    rcases hq with h | h
    · exact .inr (.inr h)
    · exact .inr (.inl h)
  intro t6 s6 ps hb6 ho6 F6 N6
  obtain ⟨h6, gs6, d6, tk6, os6⟩ := s6
  clear F5 N5
  (try dsimp only)
  walk_at "my steps"
  k_dflt refine split_ok w ⟨(joinL W).toArray⟩ t6 W ?len (lx_join W (fun x hx => (g4 x hx).1) (by intro z; rw [z] at g6; cases g6)) (by omega) ((782, tabO ps) :: [(lt, lstO acc2 c2)]) _ _ _ _ _ _ _ _ _ _ _ _ _ _ _ _ _ _ _ _ B1 F6 XH N6 TH rfl (by decide) (by decide) ?_
  case len =>
    show (joinL W).toArray.size ≤ 10000
    have := joinL_length W fun x hx => (g4 x hx).2
    simp
    omega
  intro lS acc7 c7 h7 tk7 F7 N7 hT7 hl7
  clear F6 N6
  (try dsimp only)
  walk_at "my steps"
  refine eq_txts N7 (by k_mem) (by k_mem) hT7 hT4 (fun x hx => (g4 x hx).1) (show 7 + 64 < cLine by decide) ?_
  (try dsimp only)
  walk_at "my steps"
  refine ⟨rfl, ⟨fun b o e => ?_, fun b o e => ?_⟩, ho6, hb6⟩
  · by_cases hb : b = 782
    · subst hb
      rw [h782] at e
      cases e
      obtain ⟨vs2, ho2, v1, _⟩ := c786
      have g786 := Heap.of_hide (XH _ _ ho2)
      refine .inr (.inl ⟨⟨786, _, vs2, g786, rfl, rfl, v1⟩, rfl, #[], ps, rfl, ?_⟩)
      have := (N7 _ (.tail _ (.head _))).1
      rw [Array.empty_append]
      exact this
    · exact .inl (F7.keep b o ((Heap.hide_ne _ hb).trans e))
  · by_cases hb : b = 782
    · subst hb
      exact ⟨_, (N7 _ (.tail _ (.head _))).1⟩
    · exact ⟨o, F7.keep b o ((Heap.hide_ne _ hb).trans e)⟩
theorem law_walk : WalkO q loose (XL q []) hookX.says PySem.Challenge.rw_mr0367_01.row.toRowW lawD [] fun f vs => PySem.call f vs := by
  intro w s₀ s₁ mg mb G Y fa o pm cd doc dV kV ho hd hcd hD hmg hg args vals as hpre hlay hrd hwl hlo
  have KX1 := kIn_of Y
  refine Ground.open G ?_
  intro T B D TE TW
  wrow_args hpre hlay hrd hwl hlo
  rename IntsAre _ _ => hI
  rename Heap.IsList _ _ _ => hL
  rename (¬ _ < _) => hc
  have X : (K w.params).In s₁.heap := fun b o e => KX1 b o (by
    show List.lookup b ((782, tabO #[]) :: K w.params) = some o
    rw [List.lookup_cons]
    by_cases hb : b = 782
    · rw [hb, k_no782] at e; cases e
    · rw [show (b == 782) = false from by simpa using hb]; exact e)
  have e833 := mg_of X T.g (nm_law w.params)
  have efa : fa = 833 := by
    have h : mg (S "law") = some (Value.ref fa) := hmg
    rw [e833] at h
    cases h
    rfl
  subst efa
  refine wpAny_mono (law_ok w _ _ _ hI (by omega) q q_imp _ _ mg mb s₁ _ KX1 T hL hg) (fun v s' hE => ?_) fun _ _ x => x
  obtain ⟨rfl, h1, h2, h3⟩ := hE
  refine ⟨.inl ⟨_, _, [], rfl, ?_, .bool true, ?_, ?_⟩, h1, h2, h3⟩
  · intro cls; rfl
  · first | kernel_rfl | with_unfolding_all rfl | exact postW_of (by wrow_shape) (by wtm_val) (by first | rfl | decide | (str_meet; first | done | w_fin))
  · intro _; exact ⟨List.nodup_nil, fun _ h => nomatch h⟩
end
end Mine
theorem PySem.Challenge.cw_mr0367_01_holds : PySem.Challenge.rw_mr0367_01.Holds :=
  Mine.hdX Mine.law_walk
